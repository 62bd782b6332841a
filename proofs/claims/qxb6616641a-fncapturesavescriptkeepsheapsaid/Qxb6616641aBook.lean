import Derived.Test.Qxb6616641aRows
import Derived.WalkKit
import Derived.WalkSpells
import Derived.Outline
import Derived.RowKit3
import Derived.LaidEqlPtr
import Derived.ChangeKeysEq
import Derived.Laws.StructEq
import Derived.Laws.Pointers
import Derived.Deep.QuietTactic
import Derived.BigQuiet
import Derived.Deep.RegionHeld3
import Derived.Deep.DrawnRows
namespace Go.Proofs.Qxb6616641a
open Go.RowKit

theorem info77 : (Try.prog.info? 77).map (fun i => (i.size)) = some 9 := by kernel_rfl
theorem info29 : (Try.prog.info? 29).isSome = true := by kernel_rfl
theorem cells29 : Try.prog.cellsOf 29 = 1 := by kernel_rfl

theorem eqIn29 (d b o o' : Nat) (w : World) : (Op.equalIn (d + 1) 29 (.pointer (some ⟨b, o, none⟩)) (.pointer (some ⟨b, o', none⟩))).run Try.prog w = .ok (decide (o = o')) w := by
  obtain ⟨j, hj, hz⟩ : ∃ j, Try.prog.info? 77 = some j ∧ j.size = 9 := by
    have := info77
    cases h : Try.prog.info? 77 with
    | none => simp [h] at this
    | some j => exact ⟨j, rfl, by simpa [h] using this⟩
  have e : ((⟨b, o, none⟩ : Addr) == ⟨b, o', none⟩) = decide (o = o') := by
    rw [Bool.eq_iff_iff]; simp
  simp [Op.equalIn, run_underlying Try.underlying29, sizeOf, typeInfo, hj, hz, sameAddr, e]

theorem eql29 (b o o' : Nat) (w : World) : (binOp .eql 29 (.pointer (some ⟨b, o, none⟩)) (.pointer (some ⟨b, o', none⟩))).run Try.prog w = .ok (.bool (decide (o = o'))) w := by
  simp only [binOp]
  simp [Op.equal, Op.maxDepth, eqIn29 9999]

theorem eqIn31 (b : Nat) (w : World) : (Op.equalIn 10000 31 (.agg #[.pointer (some ⟨b, 2, none⟩), .pointer (some ⟨b, 11, none⟩)]) (.agg #[.pointer (some ⟨b, 2, none⟩), .pointer (some ⟨b, 11, none⟩)])).run Try.prog w = .ok true w := by
  obtain ⟨i, hi⟩ := Option.isSome_iff_exists.1 info29
  rw [run_equalIn_array w 9999 _ _ Try.underlying31 hi, cells29]
  have p0 : ∀ a b : Value, (part 29 #[a, b] 0).run Try.prog w = .ok a w := fun a b => by simp [part, isAgg, run_underlying Try.underlying29]
  have p1 : ∀ a b : Value, (part 29 #[a, b] 1).run Try.prog w = .ok b w := fun a b => by simp [part, isAgg, run_underlying Try.underlying29]
  simp [List.range_succ, Op.eqItems, p0, p1, eqIn29 9998]

def bookCells (s : ByteArray) (born rd : Int) : Array Value :=
  #[.string s, .int .i64 born, .int .u8 1, .pointer none, .pointer none, .slice none 0 0, .slice none 0 0, .int .i64 0,
    .slice none 0 0, .slice none 0 0, .int .i64 0, .int .u8 2, .pointer none, .pointer none, .slice none 0 0, .slice none 0 0,
    .int .i64 0, .slice none 0 0, .slice none 0 0, .int .i64 0, .slice none 0 0, .int .i64 0, .int .u64 0, .int .u64 0,
    .slice none 0 0, .int .i64 0, .map none, .int .i64 0, .slice none 0 0, .slice none 0 0, .int .i64 0, .int .u64 rd, .slice none 0 0]

set_option maxHeartbeats 400000 in
theorem newBook_any (s : ByteArray) (born rd : Int) (w : World) :
    Calls Try.prog 13 #[.string s, .int .i64 born, .int .u64 rd] w fun e w' => e = .returned (.pointer (some ⟨w.heap.size, 0, none⟩)) ∧ w' = w.alloc (.cells (bookCells s born rd) 92) := by
  go_enter Try.func13, Try.ntmps13
  go_wp2
  go_ret
  exact ⟨rfl, rfl⟩

/-- The offset of the ladder of side s in a book. -/
def ladOff (s : Int) : Nat := if s = 1 then 2 else 11

theorem ladder_any (b : Nat) (s : Int) (w : World) :
    Calls Try.prog 32 #[.pointer (some ⟨b, 0, none⟩), .int .u8 s] w fun e w' => e = .returned (.pointer (some ⟨b, ladOff s, none⟩)) ∧ w' = w := by
  by_cases h : s = 1
  · have h1 : (s == 1) = true := by simp [h]
    have h2 : ladOff s = 2 := by simp [ladOff, h]
    rw [h2]; clear h h2
    go_enter Try.func32, Try.ntmps32
    go_wp2
    go_ret
    exact ⟨rfl, rfl⟩
  · have h1 : (s == 1) = false := by simp [h]
    have h2 : ladOff s = 11 := by simp [ladOff, h]
    rw [h2]; clear h h2
    go_enter Try.func32, Try.ntmps32
    go_wp2
    go_ret
    exact ⟨rfl, rfl⟩

theorem bookLadder_any (b : Nat) (s : Int) (w : World) :
    Calls Try.prog 14 #[.pointer (some ⟨b, 0, none⟩), .int .u8 s] w fun e w' => e = .returned (.pointer (some ⟨b, ladOff s, none⟩)) ∧ w' = w := by
  go_enter Try.func14, Try.ntmps14
  go_wp2_with (go_at_call 32; refine (ladder_any b s _).mono ?_; rintro e w' ⟨rfl, rfl⟩)
  go_ret
  exact ⟨rfl, rfl⟩

set_option maxHeartbeats 400000 in
theorem sides_any (b : Nat) (w : World) :
    Calls Try.prog 33 #[.pointer (some ⟨b, 0, none⟩)] w fun e w' => e = .returned (.agg #[.pointer (some ⟨b, 2, none⟩), .pointer (some ⟨b, 11, none⟩)]) ∧ ∃ c1 : Array Value, w' = (w.alloc (.cells c1 31)).drew := by
  go_enter Try.func33, Try.ntmps33
  go_wp2
  go_region
  all_goals go_wp2
  simp [bodyPost, results, Try.results33, go_sem]
  exact ⟨_, rfl⟩

set_option maxHeartbeats 400000 in
theorem bookSides_any (b : Nat) (w : World) :
    Calls Try.prog 15 #[.pointer (some ⟨b, 0, none⟩)] w fun e w' => e = .returned (.agg #[.pointer (some ⟨b, 2, none⟩), .pointer (some ⟨b, 11, none⟩)]) ∧ ∃ c1 c2 : Array Value, w' = ((w.alloc (.cells c1 31)).alloc (.cells c2 31)).drew := by
  go_enter Try.func15, Try.ntmps15
  go_wp2_with (go_at_call 33; refine (sides_any b _).mono ?_; rintro e w' ⟨rfl, c1, rfl⟩)
  simp [bodyPost, results, Try.results15, go_sem]
  exact ⟨_, _, rfl⟩

/-- The key of price p on a ladder of side sd. -/
def keyV (sd p : Int) : Int := if sd = 1 then wrap64 (-p) else p

theorem levelKey_any (a : Addr) (sd p : Int) (w : World) (hc : w.cell? a = some (.int .u8 sd)) :
    Calls Try.prog 34 #[.pointer (some a), .int .i64 p] w fun e w' => e = .returned (.int .i64 (keyV sd p)) ∧ w' = w := by
  by_cases h : sd = 1
  · have h1 : (sd == 1) = true := by simp [h]
    have h2 : keyV sd p = wrap64 (-p) := by simp [keyV, h]
    rw [h2]; clear h h2
    go_enter Try.func34, Try.ntmps34
    go_wp2
    go_ret
    exact ⟨rfl, rfl⟩
  · have h1 : (sd == 1) = false := by simp [h]
    have h2 : keyV sd p = p := by simp [keyV, h]
    rw [h2]; clear h h2
    go_enter Try.func34, Try.ntmps34
    go_wp2
    go_ret
    exact ⟨rfl, rfl⟩

theorem ladderKey_any (a : Addr) (sd p : Int) (w : World) (hc : w.cell? a = some (.int .u8 sd)) :
    Calls Try.prog 17 #[.pointer (some a), .int .i64 p] w fun e w' => e = .returned (.int .i64 (keyV sd p)) ∧ w' = w := by
  go_enter Try.func17, Try.ntmps17
  go_wp2_with (go_at_call 34; refine (levelKey_any a sd p _ hc).mono ?_; rintro e w' ⟨rfl, rfl⟩)
  go_ret
  exact ⟨rfl, rfl⟩

theorem bytes12_any (a0 : ByteArray) (a1 a2 a3 : Int) (w : World) (hs : a0.size ≤ 1048576) :
    Calls Try.prog 12 #[.string a0, .int .i64 a1, .int .u64 a2, .int .u8 a3] w fun e w' => e = .returned (.bool true) ∧ w' = w := by
  go_enter Try.func12, Try.ntmps12
  go_wp2
  go_ret
  exact ⟨rfl, rfl⟩

theorem bytes12_no (a0 : ByteArray) (a1 a2 a3 : Int) (w : World) (hs : 1048576 < a0.size) :
    Calls Try.prog 12 #[.string a0, .int .i64 a1, .int .u64 a2, .int .u8 a3] w fun e w' => e = .returned (.bool false) ∧ w' = w := by
  go_enter Try.func12, Try.ntmps12
  go_wp2
  go_ret
  exact ⟨rfl, rfl⟩

end Go.Proofs.Qxb6616641a
