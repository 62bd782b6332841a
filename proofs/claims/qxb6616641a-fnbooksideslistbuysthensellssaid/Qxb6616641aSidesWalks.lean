import Derived.Test.Qxb6616641aBook
import Derived.WalkKit
import Derived.WalkSpells
import Derived.Outline
import Derived.RowKit3
import Derived.Deep.RegionHeld3
import Derived.Deep.DrawnRows
namespace Go.Proofs.Qxb6616641a
open Go.RowKit
set_option linter.unusedVariables false

theorem bytes18_any (a0 : ByteArray) (a1 a2 a3 a4 : Int) (w : World) (hs : a0.size ≤ 1048576) :
    Calls Try.prog 18 #[.string a0, .int .i64 a1, .int .u64 a2, .int .i64 a3, .int .i64 a4] w fun e w' => e = .returned (.bool true) ∧ w' = w := by
  go_enter Try.func18, Try.ntmps18
  go_wp2
  go_ret
  exact ⟨rfl, rfl⟩

theorem bytes18_no (a0 : ByteArray) (a1 a2 a3 a4 : Int) (w : World) (hs : 1048576 < a0.size) :
    Calls Try.prog 18 #[.string a0, .int .i64 a1, .int .u64 a2, .int .i64 a3, .int .i64 a4] w fun e w' => e = .returned (.bool false) ∧ w' = w := by
  go_enter Try.func18, Try.ntmps18
  go_wp2
  go_ret
  exact ⟨rfl, rfl⟩

theorem law3_long (a0 : ByteArray) (a1 a2 a3 a4 : Int) (w : World) (hs : 1048576 < a0.size) :
    Calls Try.prog 7 #[.string a0, .int .i64 a1, .int .u64 a2, .int .i64 a3, .int .i64 a4] w fun e w' => e = .returned (.bool true) ∧ Grown w w' := by
  go_enter Try.func7, Try.ntmps7
  go_wp2_with (go_at_call 18; refine (bytes18_no a0 a1 a2 a3 a4 _ hs).mono ?_; rintro e w' ⟨rfl, rfl⟩)
  go_ret
  exact ⟨rfl, Grown.refl _⟩

theorem law3_min (a0 : ByteArray) (a1 a2 a3 a4 : Int) (w : World) (hs : a0.size ≤ 1048576) (h1 : (a3 == -9223372036854775808) = true ∨ ((a3 == -9223372036854775808) = false ∧ (a4 == -9223372036854775808) = true)) :
    Calls Try.prog 7 #[.string a0, .int .i64 a1, .int .u64 a2, .int .i64 a3, .int .i64 a4] w fun e w' => e = .returned (.bool true) ∧ Grown w w' := by
  rcases h1 with h1 | ⟨h1, h2⟩
  all_goals
    go_enter Try.func7, Try.ntmps7
    go_wp2_with (go_at_call 18; refine (bytes18_any a0 a1 a2 a3 a4 _ hs).mono ?_; rintro e w' ⟨rfl, rfl⟩)
    go_ret
    exact ⟨rfl, Grown.refl _⟩

theorem book_buy3 (w : World) (s : ByteArray) (x y : Int) : (w.alloc (.cells (bookCells s x y) 92)).cell? ⟨w.heap.size, 2, none⟩ = some (.int .u8 1) := by
  simp [bookCells]
theorem book_sell3 (w : World) (s : ByteArray) (x y : Int) : (w.alloc (.cells (bookCells s x y) 92)).cell? ⟨w.heap.size, 11, none⟩ = some (.int .u8 2) := by
  simp [bookCells]

set_option maxRecDepth 100000 in
set_option maxHeartbeats 1000000 in
theorem law3_main (a0 : ByteArray) (a1 a2 a3 a4 : Int) (w : World) (hs : a0.size ≤ 1048576) (h3 : (a3 == -9223372036854775808) = false) (h4 : (a4 == -9223372036854775808) = false)
    (k3 : keyV 1 a3 = -a3) (k4 : keyV 1 a4 = -a4) (m3 : keyV 2 a3 = a3) (m4 : keyV 2 a4 = a4) (c d f : Bool) (e1 : decide (-a3 < -a4) = c) (e2 : decide (a4 < a3) = c) (e3 : (-a3 == -a4) = d) (e4 : (a3 == a4) = d) (e5 : decide (a3 < a4) = f) :
    Calls Try.prog 7 #[.string a0, .int .i64 a1, .int .u64 a2, .int .i64 a3, .int .i64 a4] w fun e w' => e = .returned (.bool true) ∧ Grown w w' := by
  have q211 : ∀ (b : Nat) (w : World), (binOp .eql 29 (.pointer (some ⟨b, 2, none⟩)) (.pointer (some ⟨b, 11, none⟩))).run Try.prog w = .ok (.bool false) w := fun b w => eql29 b 2 11 w
  have q31 := eqIn31
  go_enter Try.func7, Try.ntmps7
  go_wp2_with (first
    | (go_at_call 18; refine (bytes18_any a0 a1 a2 a3 a4 _ hs).mono ?_; rintro e w' ⟨rfl, hw⟩; subst hw)
    | (go_at_call 13; refine (newBook_any a0 a1 a2 _).mono ?_; rintro e w' ⟨rfl, hw⟩; subst hw)
    | (go_at_call 15; refine (bookSides_any _ _).mono ?_; rintro e w' ⟨rfl, c1, c2, hw⟩; subst hw))
  go_region_held3 (fun x => x.cell? ⟨w'.heap.size + 1 + 1 + 1, 0, none⟩ = some (.pointer (some ⟨w'.heap.size, 2, none⟩)) ∧ x.cell? ⟨w'.heap.size + 1 + 1 + 1, 1, none⟩ = some (.pointer (some ⟨w'.heap.size, 11, none⟩))) (simp [go_sem, World.cell?_alloc_past])
    ((go_at_call 15; refine (bookSides_any _ _).mono ?_; rintro e w'' ⟨rfl, c3, c4, rfl⟩))
  go_wp2_with fail
  refine (ladderKey_any _ 1 _ _ ?_).mono ?_
  · simp [go_sem, bookCells, World.cell?_alloc_past]
  rintro e w'' ⟨rfl, hw⟩; subst hw
  go_wp2_with fail
  refine (ladderKey_any _ 1 _ _ ?_).mono ?_
  · simp [go_sem, bookCells, World.cell?_alloc_past]
  rintro e w'' ⟨rfl, hw⟩; subst hw
  go_wp2_with fail
  refine (ladderKey_any _ 2 _ _ ?_).mono ?_
  · simp [go_sem, bookCells, World.cell?_alloc_past]
  rintro e w'' ⟨rfl, hw⟩; subst hw
  go_wp2_with fail
  refine (ladderKey_any _ 2 _ _ ?_).mono ?_
  · simp [go_sem, bookCells, World.cell?_alloc_past]
  rintro e w'' ⟨rfl, hw⟩; subst hw
  go_wp2_with fail
  go_ret
  exact ⟨rfl, by repeat (first | exact Grown.refl _ | apply Grown.drew | apply Grown.alloc)⟩

theorem keyV_buy' (a : Int) (wa : (Lit.int .i64 a).wf = true) (h : (a == -9223372036854775808) = false) : keyV 1 a = -a := by
  simp [Lit.wf, IntKind.min, IntKind.max, IntKind.signed, IntKind.bits] at wa
  have h' : a ≠ -9223372036854775808 := by simpa using h
  simp only [keyV, if_true]
  unfold wrap64
  omega

theorem law3_all (a0 : ByteArray) (a1 a2 a3 a4 : Int) (w3 : (Lit.int .i64 a3).wf = true) (w4 : (Lit.int .i64 a4).wf = true) (w : World) :
    Calls Try.prog 7 #[.string a0, .int .i64 a1, .int .u64 a2, .int .i64 a3, .int .i64 a4] w fun e w' => e = .returned (.bool true) ∧ Grown w w' := by
  by_cases hs : a0.size ≤ 1048576
  · cases h3 : (a3 == -9223372036854775808)
    · cases h4 : (a4 == -9223372036854775808)
      · refine law3_main a0 a1 a2 a3 a4 w hs h3 h4 (keyV_buy' a3 w3 h3) (keyV_buy' a4 w4 h4) (by simp [keyV]) (by simp [keyV]) (decide (a4 < a3)) (a3 == a4) _ ?_ rfl ?_ rfl rfl
        · rw [decide_eq_decide]; omega
        · rw [Bool.eq_iff_iff]; simp
      · exact law3_min a0 a1 a2 a3 a4 w hs (Or.inr ⟨h3, h4⟩)
    · exact law3_min a0 a1 a2 a3 a4 w hs (Or.inl h3)
  · exact law3_long a0 a1 a2 a3 a4 w (by omega)
end Go.Proofs.Qxb6616641a
