import Derived.Test.Qxb6616641aBook
import Derived.WalkKit
import Derived.WalkSpells
import Derived.Outline
import Derived.RowKit3
namespace Go.Proofs.Qxb6616641a
open Go.RowKit
set_option linter.unusedVariables false

theorem bytes16_any (a0 : ByteArray) (a1 a2 a3 a4 a5 : Int) (w : World) (hs : a0.size ≤ 1048576) :
    Calls Try.prog 16 #[.string a0, .int .i64 a1, .int .u64 a2, .int .u8 a3, .int .i64 a4, .int .i64 a5] w fun e w' => e = .returned (.bool true) ∧ w' = w := by
  go_enter Try.func16, Try.ntmps16
  go_wp2
  go_ret
  exact ⟨rfl, rfl⟩

theorem bytes16_no (a0 : ByteArray) (a1 a2 a3 a4 a5 : Int) (w : World) (hs : 1048576 < a0.size) :
    Calls Try.prog 16 #[.string a0, .int .i64 a1, .int .u64 a2, .int .u8 a3, .int .i64 a4, .int .i64 a5] w fun e w' => e = .returned (.bool false) ∧ w' = w := by
  go_enter Try.func16, Try.ntmps16
  go_wp2
  go_ret
  exact ⟨rfl, rfl⟩

theorem law2_long (a0 : ByteArray) (a1 a2 a3 a4 a5 : Int) (w : World) (hs : 1048576 < a0.size) :
    Calls Try.prog 6 #[.string a0, .int .i64 a1, .int .u64 a2, .int .u8 a3, .int .i64 a4, .int .i64 a5] w fun e w' => e = .returned (.bool true) ∧ Grown w w' := by
  go_enter Try.func6, Try.ntmps6
  go_wp2_with (go_at_call 16; refine (bytes16_no a0 a1 a2 a3 a4 a5 _ hs).mono ?_; rintro e w' ⟨rfl, rfl⟩)
  go_ret
  exact ⟨rfl, Grown.refl _⟩

theorem law2_noSide (a0 : ByteArray) (a1 a2 a3 a4 a5 : Int) (w : World) (hs : a0.size ≤ 1048576) (h1 : (a3 != 1) = true) (h2 : (a3 != 2) = true) :
    Calls Try.prog 6 #[.string a0, .int .i64 a1, .int .u64 a2, .int .u8 a3, .int .i64 a4, .int .i64 a5] w fun e w' => e = .returned (.bool true) ∧ Grown w w' := by
  go_enter Try.func6, Try.ntmps6
  go_wp2_with (go_at_call 16; refine (bytes16_any a0 a1 a2 a3 a4 a5 _ hs).mono ?_; rintro e w' ⟨rfl, rfl⟩)
  go_ret
  exact ⟨rfl, Grown.refl _⟩

theorem law2_min4 (a0 : ByteArray) (a1 a2 a3 a4 a5 : Int) (w : World) (hs : a0.size ≤ 1048576) (h1 : ((a3 != 1) = true ∧ (a3 != 2) = false) ∨ (a3 != 1) = false) (h4 : (a4 == -9223372036854775808) = true) :
    Calls Try.prog 6 #[.string a0, .int .i64 a1, .int .u64 a2, .int .u8 a3, .int .i64 a4, .int .i64 a5] w fun e w' => e = .returned (.bool true) ∧ Grown w w' := by
  rcases h1 with ⟨h1, h2⟩ | h1
  all_goals
    go_enter Try.func6, Try.ntmps6
    go_wp2_with (go_at_call 16; refine (bytes16_any a0 a1 a2 a3 a4 a5 _ hs).mono ?_; rintro e w' ⟨rfl, rfl⟩)
    go_ret
    exact ⟨rfl, Grown.refl _⟩

theorem law2_min5 (a0 : ByteArray) (a1 a2 a3 a4 a5 : Int) (w : World) (hs : a0.size ≤ 1048576) (h1 : ((a3 != 1) = true ∧ (a3 != 2) = false) ∨ (a3 != 1) = false) (h4 : (a4 == -9223372036854775808) = false) (h5 : (a5 == -9223372036854775808) = true) :
    Calls Try.prog 6 #[.string a0, .int .i64 a1, .int .u64 a2, .int .u8 a3, .int .i64 a4, .int .i64 a5] w fun e w' => e = .returned (.bool true) ∧ Grown w w' := by
  rcases h1 with ⟨h1, h2⟩ | h1
  all_goals
    go_enter Try.func6, Try.ntmps6
    go_wp2_with (go_at_call 16; refine (bytes16_any a0 a1 a2 a3 a4 a5 _ hs).mono ?_; rintro e w' ⟨rfl, rfl⟩)
    go_ret
    exact ⟨rfl, Grown.refl _⟩

theorem book_buy (w : World) (s : ByteArray) (x y : Int) : (w.alloc (.cells (bookCells s x y) 92)).cell? ⟨w.heap.size, 2, none⟩ = some (.int .u8 1) := by
  simp [bookCells]
theorem book_sell (w : World) (s : ByteArray) (x y : Int) : (w.alloc (.cells (bookCells s x y) 92)).cell? ⟨w.heap.size, 11, none⟩ = some (.int .u8 2) := by
  simp [bookCells]

set_option maxRecDepth 100000 in
set_option maxHeartbeats 1000000 in
theorem law2_buy (a0 : ByteArray) (a1 a2 a3 a4 a5 : Int) (w : World) (hs : a0.size ≤ 1048576) (h1 : (a3 != 1) = false) (h1' : (a3 == 1) = true) (l3 : ladOff a3 = 2) (h4 : (a4 == -9223372036854775808) = false) (h5 : (a5 == -9223372036854775808) = false)
    (k4 : keyV 1 a4 = -a4) (k5 : keyV 1 a5 = -a5) (c d : Bool) (e1 : decide (-a4 < -a5) = c) (e2 : decide (a5 < a4) = c) (e3 : (-a4 == -a5) = d) (e4 : (a4 == a5) = d) :
    Calls Try.prog 6 #[.string a0, .int .i64 a1, .int .u64 a2, .int .u8 a3, .int .i64 a4, .int .i64 a5] w fun e w' => e = .returned (.bool true) ∧ Grown w w' := by
  have hb := book_buy w a0 a1 a2
  go_enter Try.func6, Try.ntmps6
  go_wp2_with (first
    | (go_at_call 16; refine (bytes16_any a0 a1 a2 a3 a4 a5 _ hs).mono ?_; rintro e w' ⟨rfl, hw⟩; subst hw)
    | (go_at_call 13; refine (newBook_any a0 a1 a2 _).mono ?_; rintro e w' ⟨rfl, hw⟩; subst hw)
    | (go_at_call 14; refine (bookLadder_any _ _ _).mono ?_; rintro e w' ⟨rfl, hw⟩; subst hw)
    | (go_at_call 17; refine (ladderKey_any _ 1 _ _ hb).mono ?_; rintro e w' ⟨rfl, hw⟩; subst hw))
  go_ret
  exact ⟨rfl, (Grown.refl _).alloc _ _⟩

set_option maxRecDepth 100000 in
set_option maxHeartbeats 1000000 in
theorem law2_sell (a0 : ByteArray) (a1 a2 a3 a4 a5 : Int) (w : World) (hs : a0.size ≤ 1048576) (h1 : (a3 != 1) = true) (h1' : (a3 == 1) = false) (h2 : (a3 != 2) = false) (l3 : ladOff a3 = 11) (h4 : (a4 == -9223372036854775808) = false) (h5 : (a5 == -9223372036854775808) = false)
    (k4 : keyV 2 a4 = a4) (k5 : keyV 2 a5 = a5) (c d : Bool) (e1 : decide (a4 < a5) = c) (e4 : (a4 == a5) = d) :
    Calls Try.prog 6 #[.string a0, .int .i64 a1, .int .u64 a2, .int .u8 a3, .int .i64 a4, .int .i64 a5] w fun e w' => e = .returned (.bool true) ∧ Grown w w' := by
  have hb := book_sell w a0 a1 a2
  go_enter Try.func6, Try.ntmps6
  go_wp2_with (first
    | (go_at_call 16; refine (bytes16_any a0 a1 a2 a3 a4 a5 _ hs).mono ?_; rintro e w' ⟨rfl, hw⟩; subst hw)
    | (go_at_call 13; refine (newBook_any a0 a1 a2 _).mono ?_; rintro e w' ⟨rfl, hw⟩; subst hw)
    | (go_at_call 14; refine (bookLadder_any _ _ _).mono ?_; rintro e w' ⟨rfl, hw⟩; subst hw)
    | (go_at_call 17; refine (ladderKey_any _ 2 _ _ hb).mono ?_; rintro e w' ⟨rfl, hw⟩; subst hw))
  go_ret
  exact ⟨rfl, (Grown.refl _).alloc _ _⟩

theorem keyV_buy (a : Int) (wa : (Lit.int .i64 a).wf = true) (h : (a == -9223372036854775808) = false) : keyV 1 a = -a := by
  simp [Lit.wf, IntKind.min, IntKind.max, IntKind.signed, IntKind.bits] at wa
  have h' : a ≠ -9223372036854775808 := by simpa using h
  simp only [keyV, if_true]
  unfold wrap64
  omega
theorem keyV_sell (a : Int) : keyV 2 a = a := by simp [keyV]

theorem law2_all (a0 : ByteArray) (a1 a2 a3 a4 a5 : Int) (w4 : (Lit.int .i64 a4).wf = true) (w5 : (Lit.int .i64 a5).wf = true) (w : World) :
    Calls Try.prog 6 #[.string a0, .int .i64 a1, .int .u64 a2, .int .u8 a3, .int .i64 a4, .int .i64 a5] w fun e w' => e = .returned (.bool true) ∧ Grown w w' := by
  by_cases hs : a0.size ≤ 1048576
  · by_cases g1 : a3 = 1
    · have h1 : (a3 != 1) = false := by simp [g1]
      cases h4 : (a4 == -9223372036854775808)
      · cases h5 : (a5 == -9223372036854775808)
        · refine law2_buy a0 a1 a2 a3 a4 a5 w hs h1 (by simp [g1]) (by simp [g1, ladOff]) h4 h5 (keyV_buy a4 w4 h4) (keyV_buy a5 w5 h5) (decide (a5 < a4)) (a4 == a5) ?_ rfl ?_ rfl
          · rw [decide_eq_decide]; omega
          · rw [Bool.eq_iff_iff]; simp
        · exact law2_min5 a0 a1 a2 a3 a4 a5 w hs (Or.inr h1) h4 h5
      · exact law2_min4 a0 a1 a2 a3 a4 a5 w hs (Or.inr h1) h4
    · have h1 : (a3 != 1) = true := by simp [g1]
      by_cases g2 : a3 = 2
      · have h2 : (a3 != 2) = false := by simp [g2]
        cases h4 : (a4 == -9223372036854775808)
        · cases h5 : (a5 == -9223372036854775808)
          · exact law2_sell a0 a1 a2 a3 a4 a5 w hs h1 (by simp [g2]) h2 (by simp [g2, ladOff]) h4 h5 (keyV_sell a4) (keyV_sell a5) _ _ rfl rfl
          · exact law2_min5 a0 a1 a2 a3 a4 a5 w hs (Or.inl ⟨h1, h2⟩) h4 h5
        · exact law2_min4 a0 a1 a2 a3 a4 a5 w hs (Or.inl ⟨h1, h2⟩) h4
      · exact law2_noSide a0 a1 a2 a3 a4 a5 w hs h1 (by simp [g2])
  · exact law2_long a0 a1 a2 a3 a4 a5 w (by omega)
end Go.Proofs.Qxb6616641a
