import Derived.Test.Qxb6616641aBook
import Derived.WalkKit
import Derived.WalkSpells
import Derived.Outline
import Derived.RowKit3
import Derived.LaidEqlPtr
import Derived.ChangeKeysEq
import Derived.Laws.StructEq
import Derived.Laws.Pointers
import Derived.Deep.QuietTactic
import Derived.BigQuiet
import Derived.Deep.RegionHeld3
import Derived.Deep.DrawnRows
namespace Go.Proofs.Qxb6616641a
open Go.RowKit

set_option maxRecDepth 100000 in
set_option maxHeartbeats 1000000 in
theorem law1_buy (a0 : ByteArray) (a1 a2 a3 : Int) (w : World) (hs : a0.size ≤ 1048576) (h3 : (a3 == 1) = true) :
    Calls Try.prog 5 #[.string a0, .int .i64 a1, .int .u64 a2, .int .u8 a3] w fun e w' => e = .returned (.bool true) ∧ Grown w w' := by
  have l1 : ladOff 1 = 2 := rfl
  have l2 : ladOff 2 = 11 := rfl
  have l3 : ladOff a3 = 2 := by simp at h3; simp [h3, ladOff]
  have q22 := fun (b : Nat) (w : World) => eql29 b 2 2 w
  have q211 := fun (b : Nat) (w : World) => eql29 b 2 11 w
  have q1111 := fun (b : Nat) (w : World) => eql29 b 11 11 w
  have q31 := eqIn31
  simp at q22 q211 q1111
  go_enter Try.func5, Try.ntmps5
  go_wp2_with (first
    | (go_at_call 12; refine (bytes12_any a0 a1 a2 a3 _ hs).mono ?_; rintro e w' ⟨rfl, rfl⟩)
    | (go_at_call 13; refine (newBook_any a0 a1 a2 _).mono ?_; rintro e w' ⟨rfl, rfl⟩)
    | (go_at_call 14; refine (bookLadder_any _ _ _).mono ?_; rintro e w' ⟨rfl, rfl⟩)
    | (go_at_call 15; refine (bookSides_any _ _).mono ?_; rintro e w' ⟨rfl, c1, c2, rfl⟩))
  go_region_held3 (fun x => x.cell? ⟨w'.heap.size + 1 + 1 + 1, 0, none⟩ = some (.pointer (some ⟨w'.heap.size, 2, none⟩)) ∧ x.cell? ⟨w'.heap.size + 1 + 1 + 1, 1, none⟩ = some (.pointer (some ⟨w'.heap.size, 11, none⟩))) (simp [go_sem, World.cell?_alloc_past])
    (first
      | (go_at_call 14; refine (bookLadder_any _ _ _).mono ?_; rintro e w'' ⟨rfl, rfl⟩)
      | (go_at_call 15; refine (bookSides_any _ _).mono ?_; rintro e w'' ⟨rfl, c3, c4, rfl⟩))
  go_wp2
  go_ret
  exact ⟨rfl, by repeat (first | exact Grown.refl _ | apply Grown.drew | apply Grown.alloc)⟩

set_option maxRecDepth 100000 in
set_option maxHeartbeats 1000000 in
theorem law1_sell (a0 : ByteArray) (a1 a2 a3 : Int) (w : World) (hs : a0.size ≤ 1048576) (h3 : (a3 == 1) = false) :
    Calls Try.prog 5 #[.string a0, .int .i64 a1, .int .u64 a2, .int .u8 a3] w fun e w' => e = .returned (.bool true) ∧ Grown w w' := by
  have l1 : ladOff 1 = 2 := rfl
  have l2 : ladOff 2 = 11 := rfl
  have l3 : ladOff a3 = 11 := by simp at h3; simp [h3, ladOff]
  have q22 := fun (b : Nat) (w : World) => eql29 b 2 2 w
  have q211 := fun (b : Nat) (w : World) => eql29 b 2 11 w
  have q1111 := fun (b : Nat) (w : World) => eql29 b 11 11 w
  have q31 := eqIn31
  simp at q22 q211 q1111
  go_enter Try.func5, Try.ntmps5
  go_wp2_with (first
    | (go_at_call 12; refine (bytes12_any a0 a1 a2 a3 _ hs).mono ?_; rintro e w' ⟨rfl, rfl⟩)
    | (go_at_call 13; refine (newBook_any a0 a1 a2 _).mono ?_; rintro e w' ⟨rfl, rfl⟩)
    | (go_at_call 14; refine (bookLadder_any _ _ _).mono ?_; rintro e w' ⟨rfl, rfl⟩)
    | (go_at_call 15; refine (bookSides_any _ _).mono ?_; rintro e w' ⟨rfl, c1, c2, rfl⟩))
  go_region_held3 (fun x => x.cell? ⟨w'.heap.size + 1 + 1 + 1, 0, none⟩ = some (.pointer (some ⟨w'.heap.size, 2, none⟩)) ∧ x.cell? ⟨w'.heap.size + 1 + 1 + 1, 1, none⟩ = some (.pointer (some ⟨w'.heap.size, 11, none⟩))) (simp [go_sem, World.cell?_alloc_past])
    (first
      | (go_at_call 14; refine (bookLadder_any _ _ _).mono ?_; rintro e w'' ⟨rfl, rfl⟩)
      | (go_at_call 15; refine (bookSides_any _ _).mono ?_; rintro e w'' ⟨rfl, c3, c4, rfl⟩))
  go_wp2
  go_ret
  exact ⟨rfl, by repeat (first | exact Grown.refl _ | apply Grown.drew | apply Grown.alloc)⟩

theorem law1_long (a0 : ByteArray) (a1 a2 a3 : Int) (w : World) (hs : 1048576 < a0.size) :
    Calls Try.prog 5 #[.string a0, .int .i64 a1, .int .u64 a2, .int .u8 a3] w fun e w' => e = .returned (.bool true) ∧ Grown w w' := by
  go_enter Try.func5, Try.ntmps5
  go_wp2_with (go_at_call 12; refine (bytes12_no a0 a1 a2 a3 _ hs).mono ?_; rintro e w' ⟨rfl, rfl⟩)
  go_ret
  exact ⟨rfl, Grown.refl _⟩

end Go.Proofs.Qxb6616641a
