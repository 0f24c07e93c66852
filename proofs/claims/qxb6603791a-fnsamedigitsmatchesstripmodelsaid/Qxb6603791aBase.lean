/-
  Slices of bytes as the contracts of this project see them; the bounds on total length; the copy that every law makes first.
-/
import Derived.Test.Qxb6603791aRows
import Derived.WalkKit
import Derived.WalkSpells
import Derived.OpenShut
import Derived.Below
import Derived.Laws.CopyOwn
namespace Go.Proofs.Qxb6603791a
open Go.RowKit

/-- What the walk is told of a slice of integers that came in: it is nil; or it leads to a row of 'cap' cells, the numbers 'zs' (the first 'len' are its elements, the rest its spare room), each fitting its kind. -/
def IsRow (k : IntKind) (w : World) (a : Option Addr) (len cap : Nat) (zs : List Int) : Prop :=
  (a = none ∧ len = 0 ∧ cap = 0 ∧ zs = []) ∨
  ∃ x, a = some x ∧ len ≤ cap ∧ cap ≤ maxLen ∧ zs.length = cap ∧ (∀ i, i < zs.length → w.cell? (x.add i) = some (.int k (zs.getD i 0))) ∧ ∀ n ∈ zs, (Lit.int k n).wf = true

/-- The value v is a slice of bytes whose elements read xs in w. -/
def Sees (w : World) (v : Value) (xs : List Int) : Prop :=
  (xs = [] ∧ ∃ a c, v = .slice a 0 c) ∨
  (0 < xs.length ∧ ∃ b o c, v = .slice (some ⟨b, o, none⟩) xs.length c ∧ b < w.heap.size ∧ xs.length ≤ c ∧ c ≤ maxLen ∧ ∀ j, j < xs.length → w.cell? ⟨b, o + j, none⟩ = some (.int .u8 (xs.getD j 0)))

theorem Sees.on {w w' : World} {v : Value} {xs : List Int} (h : Sees w v xs) (hb : Below w.heap.size w w') : Sees w' v xs := by
  rcases h with h | ⟨h0, b, o, c, hv, hlt, hc, hm, hcell⟩
  · exact Or.inl h
  · exact Or.inr ⟨h0, b, o, c, hv, Nat.lt_of_lt_of_le hlt hb.size, hc, hm, fun j hj => (hb.cell (by exact hlt)).trans (hcell j hj)⟩

/-- What the call itself owns, it sees. -/
theorem Sees.of_owns {w : World} {base : Nat} {v : Value} {n : Nat} {xs : List Int} (h : w.ownsRow base 5 1 v n (xs.map (Value.int .u8))) : Sees w v xs := by
  have hn : xs.length = n := by simpa using h.1
  rcases h.2 with ⟨rfl, h0⟩ | ⟨g, cap, cur, rfl, hb, hg, hle, hm, hs, ht⟩
  · exact Or.inl ⟨List.eq_nil_of_length_eq_zero (by omega), _, _, rfl⟩
  · by_cases h0 : xs.length = 0
    · have e : xs = [] := List.eq_nil_of_length_eq_zero h0
      have e2 : n = 0 := by omega
      subst e2
      exact Or.inl ⟨e, _, _, rfl⟩
    · refine Or.inr ⟨by omega, g, 0, cap, by rw [hn], (Array.getElem?_eq_some_iff.1 hg).1, by omega, hm, fun j hj => ?_⟩
      have := h.cells (g := g) rfl j (.int .u8 (xs.getD j 0)) (by simp [hj])
      rw [Addr.add_lit] at this
      exact this

theorem ret_bool {a b : Bool} (h : a = b) : Ending.returned (.bool a) = .returned (.bool b) := by rw [h]
theorem ret_int {k : IntKind} {a b : Int} (h : a = b) : Ending.returned (.int k a) = .returned (.int k b) := by rw [h]

theorem Try.info5 : (Try.prog.info? 5).map (fun i => (i.zero, i.size, i.bytes)) = some (some (.int .u8 0), 1, 1) := by kernel_rfl
theorem Try.size5 : (Try.prog.info? 5).map (·.size) = some 1 := by kernel_rfl

/-! ### The bounds on total length -/

theorem bytes7_any (a : Option Addr) (la ca : Nat) (b : Option Addr) (lb cb : Nat) (w : World) (ha : la ≤ maxLen) (hb : lb ≤ maxLen) :
    Calls Try.prog 7 #[.slice a la ca, .slice b lb cb] w fun e w' => e = .returned (.bool (decide (la + lb ≤ 1048576))) ∧ w = w' := by
  unfold maxLen at ha hb
  by_cases h1 : la ≤ 1048576
  · by_cases h2 : lb ≤ 1048576
    · by_cases h3 : la + lb ≤ 1048576
      · go_enter Try.func7, Try.ntmps7
        go_wp2
        go_ret
        exact ⟨ret_bool (decide_eq_true h3).symm, rfl⟩
      · go_enter Try.func7, Try.ntmps7
        go_wp2
        go_ret
        exact ⟨ret_bool (decide_eq_false h3).symm, rfl⟩
    · go_enter Try.func7, Try.ntmps7
      go_wp2
      go_ret
      exact ⟨ret_bool (decide_eq_false (by omega)).symm, rfl⟩
  · go_enter Try.func7, Try.ntmps7
    go_wp2
    go_ret
    exact ⟨ret_bool (decide_eq_false (by omega)).symm, rfl⟩

theorem bytes13_any (a : Option Addr) (la ca : Nat) (k : Int) (w : World) (ha : la ≤ maxLen) :
    Calls Try.prog 13 #[.slice a la ca, .int .i64 k] w fun e w' => e = .returned (.bool (decide (la ≤ 1048576))) ∧ w = w' := by
  unfold maxLen at ha
  by_cases h1 : la ≤ 1048576
  · go_enter Try.func13, Try.ntmps13
    go_wp2
    go_ret
    exact ⟨ret_bool (decide_eq_true h1).symm, rfl⟩
  · go_enter Try.func13, Try.ntmps13
    go_wp2
    go_ret
    exact ⟨ret_bool (decide_eq_false h1).symm, rfl⟩

theorem bytes14_any (a : Option Addr) (la ca : Nat) (k : Int) (w : World) (ha : la ≤ maxLen) :
    Calls Try.prog 14 #[.slice a la ca, .int .i64 k] w fun e w' => e = .returned (.bool (decide (la ≤ 1048576))) ∧ w = w' := by
  unfold maxLen at ha
  by_cases h1 : la ≤ 1048576
  · go_enter Try.func14, Try.ntmps14
    go_wp2
    go_ret
    exact ⟨ret_bool (decide_eq_true h1).symm, rfl⟩
  · go_enter Try.func14, Try.ntmps14
    go_wp2
    go_ret
    exact ⟨ret_bool (decide_eq_false h1).symm, rfl⟩

theorem bytes17_any (a : Option Addr) (la ca : Nat) (k : Int) (u : Bool) (b : Option Addr) (lb cb : Nat) (w : World) (ha : la ≤ maxLen) (hb : lb ≤ maxLen) :
    Calls Try.prog 17 #[.slice a la ca, .int .i64 k, .bool u, .slice b lb cb] w fun e w' => e = .returned (.bool (decide (la + lb ≤ 1048576))) ∧ w = w' := by
  unfold maxLen at ha hb
  by_cases h1 : la ≤ 1048576
  · by_cases h2 : lb ≤ 1048576
    · by_cases h3 : la + lb ≤ 1048576
      · go_enter Try.func17, Try.ntmps17
        go_wp2
        go_ret
        exact ⟨ret_bool (decide_eq_true h3).symm, rfl⟩
      · go_enter Try.func17, Try.ntmps17
        go_wp2
        go_ret
        exact ⟨ret_bool (decide_eq_false h3).symm, rfl⟩
    · go_enter Try.func17, Try.ntmps17
      go_wp2
      go_ret
      exact ⟨ret_bool (decide_eq_false (by omega)).symm, rfl⟩
  · go_enter Try.func17, Try.ntmps17
    go_wp2
    go_ret
    exact ⟨ret_bool (decide_eq_false (by omega)).symm, rfl⟩

/-! ### zzEnvB1Clone -/

theorem clone_nil (w : World) (l c : Nat) :
    Calls Try.prog 8 #[.slice none l c] w fun e w' => e = .returned (.slice none 0 0) ∧ w' = w := by
  have q22 : ∀ (w : World) (a : Option Addr) (n c n' c' : Nat), (binOp .eql 22 (.slice a n c) (.slice none n' c')).run Try.prog w = .ok (.bool a.isNone) w := fun w a n c n' c' => Lib.run_eql_slice_nil w _ _ a n c n' c' Try.underlying22
  go_enter Try.func8, Try.ntmps8
  go_wp2
  go_ret
  exact ⟨rfl, rfl⟩

set_option maxHeartbeats 800000 in
theorem clone_some (x : Addr) (len cap : Nat) (xs : List Int) (w : World) (hl : xs.length = len) (hlen : len ≤ 1048576)
    (hc : ∀ i, i < xs.length → w.cell? (x.add i) = some (.int .u8 (xs.getD i 0))) :
    Calls Try.prog 8 #[.slice (some x) len cap] w fun e w' => e = .returned (.slice (some ⟨w.heap.size, 0, none⟩) len len) ∧ w'.ownsRow w.heap.size 5 1 (.slice (some ⟨w.heap.size, 0, none⟩) len len) len (xs.map (Value.int .u8)) ∧ Below w.heap.size w w' := by
  obtain ⟨i0, hi, hz0, hz1, hz2⟩ := info_parts Try.info5
  have q22 : ∀ (w : World) (a : Option Addr) (n c n' c' : Nat), (binOp .eql 22 (.slice a n c) (.slice none n' c')).run Try.prog w = .ok (.bool a.isNone) w := fun w a n c n' c' => Lib.run_eql_slice_nil w _ _ a n c n' c' Try.underlying22
  go_enter Try.func8, Try.ntmps8
  go_wp2_with (at_make; refine wpList_make_full _ rfl _ _ 22 rfl w.heap.size 5 i0 (.int .u8 0) 1 Try.underlying22 hi hz0 hz1 _ _ _ _ len rfl rfl (by omega) (by omega) ?b2 ?b3 (Nat.le_refl _) ?_)
  case b2 => rw [hz2]; omega
  case b3 => unfold maxLen; omega
  intro w0 hown0 hgrow0
  obtain ⟨cur, hg, hsz⟩ : ∃ cur : List Value, w0.heap[w.heap.size]? = some (.cells cur.toArray 5 (0, 0)) ∧ cur.length = len := by
    rcases hown0.2 with ⟨h, -⟩ | ⟨g, cap, cur, hv, -, hg, -, -, hs, -⟩
    · cases h
    · cases hv
      exact ⟨cur.toList, by simpa using hg, by simpa using hs⟩
  have hb0 : Below w.heap.size w w0 := (Below.refl _ _).grown hgrow0 (Nat.le_refl _) (fun k h => by cases h)
  have hc0 : ∀ j v, (xs.map (Value.int .u8))[j]? = some v → w0.cell? (x.add j) = some v := by
    intro j v hj
    have hjl : j < xs.length := by
      have := (List.getElem?_eq_some_iff.1 hj).1
      simpa using this
    have h1 := hc j hjl
    have hblk : (x.add j).block < w.heap.size := World.block_lt_of_cell? w _ h1
    rw [hb0.cell hblk, h1]
    simpa [hjl] using hj
  clear hown0 hgrow0 hc
  go_wp2_with (refine wpList_copy_splice rfl (.tmp 9) (.tmp 10) 22 22 rfl 5 Try.underlying22 Try.size5 _ _ _ _ _ _ rfl rfl w.heap.size 0 cur 5 hg (xs.map (Value.int .u8)) (by simp [hl]) (fun _ => ⟨rfl, x, rfl, hc0⟩) (by simp [hl, hsz]) (ints_oneCell _ _) w.heap.size w hb0 (Nat.le_refl _) ?_)
  intro w1 HG hb1
  go_wp2
  go_ret
  have e : splice cur 0 (xs.map (Value.int .u8)) = xs.map (Value.int .u8) := by
    have : cur.drop (0 + (xs.map (Value.int .u8)).length) = [] := List.drop_eq_nil_of_le (by simp; omega)
    simp only [splice, this]
    simp
  have hG := HG.out
  rw [e] at hG
  exact ⟨rfl, ⟨by simp [hl], Or.inr ⟨_, _, _, rfl, Nat.le_refl _, hG, Nat.le_refl _, by unfold maxLen; omega, by simp [hl], List.take_of_length_le (by simp [hl])⟩⟩, hb1⟩

/-- The copy of a slice that came in: nil or a row of its own; the same bytes. -/
theorem clone_any (a : Option Addr) (len cap : Nat) (zs : List Int) (w : World) (h : IsRow .u8 w a len cap zs) (hlen : len ≤ 1048576) :
    Calls Try.prog 8 #[.slice a len cap] w fun e w' => ∃ v, e = .returned v ∧ w'.ownsRow w.heap.size 5 1 v len ((zs.take len).map (Value.int .u8)) ∧ Below w.heap.size w w' := by
  rcases h with ⟨rfl, rfl, rfl, rfl⟩ | ⟨x, rfl, hle, hm, hz, hc, -⟩
  · refine (clone_nil w 0 0).mono ?_
    rintro e w' ⟨rfl, rfl⟩
    exact ⟨_, rfl, World.ownsRow_nil _ _ _ _, Below.refl _ _⟩
  · refine (clone_some x len cap (zs.take len) w (by simp; omega) hlen (fun i hi => ?_)).mono ?_
    · have hi' : i < len := by simp at hi; omega
      have := hc i (by omega)
      simpa [List.getD, List.getElem?_take, hi'] using this
    · rintro e w' ⟨rfl, h1, h2⟩
      exact ⟨_, rfl, h1, h2⟩

/-- The copy of a slice that came in and is not empty: a row of its own. -/
theorem clone_pos (a : Option Addr) (len cap : Nat) (zs : List Int) (w : World) (h : IsRow .u8 w a len cap zs) (hlen : len ≤ 1048576) (h0 : 0 < len) :
    Calls Try.prog 8 #[.slice a len cap] w fun e w' => e = .returned (.slice (some ⟨w.heap.size, 0, none⟩) len len) ∧ w'.ownsRow w.heap.size 5 1 (.slice (some ⟨w.heap.size, 0, none⟩) len len) len ((zs.take len).map (Value.int .u8)) ∧ Below w.heap.size w w' := by
  rcases h with ⟨rfl, rfl, rfl, rfl⟩ | ⟨x, rfl, hle, hm, hz, hc, -⟩
  · omega
  · refine clone_some x len cap (zs.take len) w (by simp; omega) hlen (fun i hi => ?_)
    have hi' : i < len := by simp at hi; omega
    have := hc i (by omega)
    simpa [List.getD, List.getElem?_take, hi'] using this

/-- The cells of a cut of a row. -/
theorem cells_seg {w : World} {g o : Nat} {A : List Int} (hc : ∀ t, t < A.length → w.cell? ⟨g, o + t, none⟩ = some (.int .u8 (A.getD t 0))) (i m : Nat) :
    ∀ j u, (((A.drop i).take m).map (Value.int .u8))[j]? = some u → w.cell? ((⟨g, o + i, none⟩ : Addr).add j) = some u := by
  intro j u hj
  have h1 := (List.getElem?_eq_some_iff.1 hj).1
  simp at h1
  rw [Addr.add_lit, Nat.add_assoc, hc (i + j) (by omega)]
  have hjm : j < m := by omega
  simpa [List.getElem?_take, hjm, List.getD, show i + j < A.length by omega] using hj

theorem one_cell (a : Int) (w : World) (t : TypeId) : ∀ j u, [Value.int .u8 a][j]? = some u → (w.alloc (.cells #[Value.int .u8 a] t)).cell? ((⟨w.heap.size, 0, none⟩ : Addr).add j) = some u := by
  intro j u hj
  match j, hj with
  | 0, hj => simp at hj; subst hj; simp [Addr.add]

theorem one_one (a : Int) : ∀ u ∈ [Value.int .u8 a], u.oneCell' = true := by
  intro u hu
  simp at hu
  subst hu
  rfl

/-- The numbers of a slice that came in are bytes. -/
theorem IsRow.byte {w : World} {a : Option Addr} {len cap : Nat} {zs : List Int} (h : IsRow .u8 w a len cap zs) : ∀ n ∈ zs.take len, 0 ≤ n ∧ n ≤ 255 := by
  intro n hn
  have hm := List.mem_of_mem_take hn
  rcases h with ⟨-, -, -, rfl⟩ | ⟨x, -, -, -, -, -, hw⟩
  · simp at hm
  · exact bounds_u8 (hw n hm)

theorem IsRow.length {w : World} {a : Option Addr} {len cap : Nat} {zs : List Int} (h : IsRow .u8 w a len cap zs) : (zs.take len).length = len := by
  rcases h with ⟨-, rfl, -, rfl⟩ | ⟨x, -, hle, -, hz, -, -⟩
  · rfl
  · simp; omega

theorem IsRow.le {w : World} {a : Option Addr} {len cap : Nat} {zs : List Int} (h : IsRow .u8 w a len cap zs) : len ≤ maxLen := by
  rcases h with ⟨-, rfl, -, -⟩ | ⟨x, -, hle, hm, -, -, -⟩
  · exact Nat.zero_le _
  · omega

/-- A slice that came in, seen. -/
theorem IsRow.sees {w : World} {a : Option Addr} {len cap : Nat} {zs : List Int} (h : IsRow .u8 w a len cap zs) : Sees w (.slice a len cap) (zs.take len) := by
  have hl := h.length
  rcases h with ⟨rfl, rfl, rfl, rfl⟩ | ⟨x, rfl, hle, hm, hz, hc, -⟩
  · exact Or.inl ⟨rfl, _, _, rfl⟩
  · by_cases h0 : len = 0
    · subst h0
      exact Or.inl ⟨by simp, _, _, rfl⟩
    · obtain ⟨b, o, rfl, hcell⟩ := ints_at hc (by omega)
      refine Or.inr ⟨by omega, b, o, cap, by rw [hl], World.block_lt_of_cell? w _ (hcell 0 (by omega)), by omega, hm, fun j hj => ?_⟩
      have hj' : j < len := by omega
      have := hcell j (by omega)
      simpa [List.getD, List.getElem?_take, hj'] using this

end Go.Proofs.Qxb6603791a
