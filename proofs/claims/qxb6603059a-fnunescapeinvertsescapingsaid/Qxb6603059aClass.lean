/-
  buildClass and className: the contracts that FnClassNameReadsBuiltClass rests on.
-/
import Derived.Test.Qxb6603059aLetters
import Derived.Lib.AppendStr
import Derived.Lib.Builder
import Derived.Lib.RuneBytes
namespace Go.Proofs.Qxb6603059a
open Go.RowKit

theorem Try.info5 : (Try.prog.info? 5).map (fun i => (i.zero, i.size, i.bytes)) = some (some (.int .u8 0), 1, 1) := by kernel_rfl

/-- The bytes of '[:' name ':]' rest. -/
def classBytes (s t : ByteArray) : List UInt8 := 91 :: 58 :: (s.data.toList ++ 58 :: 93 :: t.data.toList)

set_option maxHeartbeats 800000 in
theorem className_found (pat : ByteArray) (m : Nat) (hm : m + 4 ≤ pat.size) (hp : pat.size ≤ 2097152)
    (h0 : ((pat[0]'(by omega)).toNat : Int) = 91) (h1 : ((pat[1]'(by omega)).toNat : Int) = 58)
    (hl : ∀ j (hj : j < pat.size), 2 ≤ j → j < m + 2 → letter ((pat[j]'hj).toNat : Int) = true)
    (h2 : ((pat[m + 2]'(by omega)).toNat : Int) = 58) (h3 : ((pat[m + 2 + 1]'(by omega)).toNat : Int) = 93) (w : World) :
    Calls Try.prog 22 #[.string pat] w fun e w' => e = .returned (.tuple #[.string (pat.extract 2 (m + 2)), .int .i64 ((m + 2 : Nat) + 2 : Int), .bool true]) ∧ w' = w := by
  have L : Hid (∀ j (hj : j < pat.size), 2 ≤ j → j < m + 2 → letter ((pat[j]'hj).toNat : Int) = true) := hl
  have H2 : Hid (((pat[m + 2]'(by omega)).toNat : Int) = 58) := h2
  have H3 : Hid (((pat[m + 2 + 1]'(by omega)).toNat : Int) = 93) := h3
  clear hl h2 h3
  go_enter Try.func22, Try.ntmps22
  go_wp2
  go_loop [5] (fun i => ∃ j : Nat, 2 ≤ j ∧ j ≤ m + 2 ∧ i = .int .i64 j) (fun i => m + 2 - (intOf i).toNat)
  case atStart => exact ⟨2, by omega, by omega, rfl⟩
  case round =>
    obtain ⟨j, hj1, hj2, rfl⟩ := hrel
    clear h0 h1
    by_cases hlt : j < m + 2
    · have hj : j < pat.size := by omega
      have hal := L.out j hj hj1 hlt
      have h65 : (65 : Int) ≤ ((pat[j]'hj).toNat : Int) := by
        have := of_decide_eq_true hal
        omega
      have h255 : ((pat[j]'hj).toNat : Int) ≤ 255 := by have := (pat[j]'hj).toNat_lt; omega
      go_wp2_with (go_at_call 27; refine (isAlpha_any _ _).mono ?_; rintro e w' ⟨rfl, rfl⟩)
      go_round
      case rel => exact ⟨j + 1, by omega, by omega, by go_num⟩
      case measure => simp [intOf]; omega
    · obtain rfl : j = m + 2 := by omega
      have h2 := H2.out
      have h3 := H3.out
      clear L H2 H3
      go_wp2
      go_ret3
      exact ⟨rfl, rfl⟩

theorem two_cells (a b : Int) (w : World) (t : TypeId) : ∀ j u, [Value.int .u8 a, Value.int .u8 b][j]? = some u → (w.alloc (.cells #[Value.int .u8 a, Value.int .u8 b] t)).cell? ((⟨w.heap.size, 0, none⟩ : Addr).add j) = some u := by
  intro j u hj
  match j, hj with
  | 0, hj => simp at hj; subst hj; simp [Addr.add]
  | 1, hj => simp at hj; subst hj; simp [Addr.add]

theorem two_one (a b : Int) : ∀ u ∈ [Value.int .u8 a, Value.int .u8 b], u.oneCell' = true := by
  intro u hu
  simp at hu
  rcases hu with rfl | rfl <;> rfl

theorem classBytes_cells (s t : ByteArray) : Value.int .u8 91 :: Value.int .u8 58 :: (Lib.strCells s ++ Value.int .u8 58 :: Value.int .u8 93 :: Lib.strCells t) = Lib.byteCells (classBytes s t) := by
  simp [classBytes, Lib.byteCells, Lib.strCells]

theorem classBytes_length (s t : ByteArray) : (classBytes s t).length = 2 + s.size + 2 + t.size := by
  simp [classBytes]; omega

set_option maxHeartbeats 800000 in
theorem build_any (s t : ByteArray) (w : World) (hs : s.size ≤ 1048576) (ht : t.size ≤ 1048576) :
    Calls Try.prog 18 #[.string s, .string t] w fun e w' => e = .returned (.string ⟨(classBytes s t).toArray⟩) ∧ Below w.heap.size w w' := by
  obtain ⟨i0, hi, hz0, hz1, hz2⟩ := info_parts Try.info5
  go_enter Try.func18, Try.ntmps18
  go_wp2_with (at_make; refine wpList_make_own _ rfl _ _ 29 rfl w.heap.size 5 i0 (.int .u8 0) 1 Try.underlying29 hi hz0 hz1 _ _ _ (s.size + t.size + 4) rfl rfl (by omega) ?b2 ?b3 (Nat.le_refl _) ?_)
  case b2 => rw [hz2]; omega
  case b3 => unfold maxLen; omega
  intro w0 hown0 hgrow0
  have hb0 : Below w.heap.size w w0 := (Below.refl _ _).grown hgrow0 (Nat.le_refl _) (fun k h => by cases h)
  clear hgrow0
  go_wp2_with (at_builtin; refine wpList_append_own _ rfl _ _ 29 rfl w.heap.size 5 i0 (.int .u8 0) 1 1 Try.underlying29 hi hz0 hz1 hz2 rfl (by decide) _ _ _ rfl (hown0.alloc _) ⟨w0.heap.size, 0, none⟩ 2 2 [.int .u8 91, .int .u8 58] rfl rfl (two_cells 91 58 w0 5) (two_one 91 58) (by decide) (by decide) (by have := hb0.size; simp; omega) ?_)
  intro v1 w1 hown1 hgrow1 _
  have hb1 : Below w.heap.size w w1 := (hb0.alloc hb0.size _).grown hgrow1 (by have := hb0.size; simp; omega) (fun k hk => (hown0.lt k hk).1)
  clear hgrow1 hown0 hb0
  go_wp2_with (at_builtin; refine Lib.wpList_append_own_string _ rfl _ _ 29 9 rfl w.heap.size 5 i0 Try.underlying29 Try.underlying9 hi hz0 hz1 hz2 _ _ _ rfl hown1 s rfl (by unfold maxLen; omega) (by omega) hb1.size ?_)
  intro v2 w2 hown2 hgrow2 _
  have hb2 : Below w.heap.size w w2 := hb1.grown hgrow2 hb1.size (fun k hk => (hown1.lt k hk).1)
  clear hgrow2 hown1 hb1
  go_wp2_with (at_builtin; refine wpList_append_own _ rfl _ _ 29 rfl w.heap.size 5 i0 (.int .u8 0) 1 1 Try.underlying29 hi hz0 hz1 hz2 rfl (by decide) _ _ _ rfl (hown2.alloc _) ⟨w2.heap.size, 0, none⟩ 2 2 [.int .u8 58, .int .u8 93] rfl rfl (two_cells 58 93 w2 5) (two_one 58 93) (by unfold maxLen; omega) (by omega) (by have := hb2.size; simp; omega) ?_)
  intro v3 w3 hown3 hgrow3 _
  have hb3 : Below w.heap.size w w3 := (hb2.alloc hb2.size _).grown hgrow3 (by have := hb2.size; simp; omega) (fun k hk => (hown2.lt k hk).1)
  clear hgrow3 hown2 hb2
  go_wp2_with (at_builtin; refine Lib.wpList_append_own_string _ rfl _ _ 29 9 rfl w.heap.size 5 i0 Try.underlying29 Try.underlying9 hi hz0 hz1 hz2 _ _ _ rfl hown3 t rfl (by unfold maxLen; omega) (by omega) hb3.size ?_)
  intro v4 w4 hown4 hgrow4 _
  have hb4 : Below w.heap.size w w4 := hb3.grown hgrow4 hb3.size (fun k hk => (hown3.lt k hk).1)
  clear hgrow4 hown3 hb3
  rw [classBytes_cells, ← classBytes_length] at hown4
  obtain ⟨l, hl⟩ : ∃ l, l = classBytes s t := ⟨_, rfl⟩
  have hpos : 0 < (classBytes s t).length := by rw [classBytes_length]; omega
  rw [← hl] at hown4 hpos
  have HL : Hid (l = classBytes s t) := hl
  clear hl
  rcases hown4.2 with ⟨-, h0⟩ | ⟨g, cap, cur, rfl, -, -, -, -, -, -⟩
  · omega
  · have hcv := run_convert_bytes_back (P := Try.prog) w4 29 9 5 ⟨g, 0, none⟩ cap l Try.underlying29 Try.underlying5 Try.underlying9 (fun j hj => hown4.cells (g := g) rfl j _ (by simp [Lib.byteCells, hj]))
    go_wp2
    go_ret
    have hl := HL.out
    subst hl
    exact ⟨rfl, hb4⟩

end Go.Proofs.Qxb6603059a
