import Derived.Test.Qxb6616641aScript
import Derived.BigQuiet
set_option linter.unusedVariables false
set_option linter.unusedSimpArgs false
namespace Go.Proofs.Qxb6616641a
open Go.RowKit

theorem bytes27_any (a0 a1 a2 : Int) (c : Bool) (ls lk lt : Int) (sp : Option Addr) (N cap : Nat) (w : World) (h : N ≤ 1048576) :
    Calls Try.prog 27 #[.int .i64 a0, .int .u64 a1, .int .u64 a2, .bool c, .agg #[.int .u8 ls, .int .i64 lk, .int .i64 lt], .slice sp N cap] w fun e w' => e = .returned (.bool true) ∧ Below w.heap.size w w' := by
  have h' : ¬ (1048576 : Int) < N := by omega
  go_enter Try.func27, Try.ntmps27
  go_wp2
  go_ret
  exact ⟨rfl, (Below.refl _ _).alloc (Nat.le_refl _) _⟩
theorem bytes27_no (a0 a1 a2 : Int) (c : Bool) (ls lk lt : Int) (sp : Option Addr) (N cap : Nat) (w : World) (h : ¬ N ≤ 1048576) :
    Calls Try.prog 27 #[.int .i64 a0, .int .u64 a1, .int .u64 a2, .bool c, .agg #[.int .u8 ls, .int .i64 lk, .int .i64 lt], .slice sp N cap] w fun e w' => e = .returned (.bool false) ∧ Below w.heap.size w w' := by
  have h' : (1048576 : Int) < N := by omega
  go_enter Try.func27, Try.ntmps27
  go_wp2
  go_ret
  exact ⟨rfl, (Below.refl _ _).alloc (Nat.le_refl _) _⟩

structure InAt (os : List Ord6) (gs off : Nat) (w : World) : Prop where
  cells : ∀ i, i < os.length → ∀ j, j < 6 → w.cell? ⟨gs, off + i * 6 + j, none⟩ = (os.getD i Ord6.zero).cells[j]?
theorem InAt.below {os : List Ord6} {gs off : Nat} {w x : World} (h : InAt os gs off w) {B : Nat} (hb : Below B w x) (hB : w.heap.size ≤ B) : InAt os gs off x := by
  refine ⟨fun i hi j hj => ?_⟩
  have := h.cells i hi j hj
  rw [← this]
  have hs : ((os.getD i Ord6.zero).cells[j]?).isSome = true := by
    have : j < (os.getD i Ord6.zero).cells.length := hj
    rw [List.getElem?_eq_getElem this]; rfl
  rw [← h.cells i hi j hj] at hs
  obtain ⟨u, hu⟩ := Option.isSome_iff_exists.1 hs
  have hlt := World.block_lt_of_cell? w _ hu
  simp only at hlt
  exact hb.cell (p := ⟨gs, off + i * 6 + j, none⟩) (by simp; omega)

set_option maxRecDepth 100000 in
theorem law5_long (a0 a1 a2 : Int) (c : Bool) (ls lk lt : Int) (sp : Option Addr) (N cap : Nat) (w : World) (h : ¬ N ≤ 16384) :
    Calls Try.prog 9 #[.int .i64 a0, .int .u64 a1, .int .u64 a2, .bool c, .agg #[.int .u8 ls, .int .i64 lk, .int .i64 lt], .slice sp N cap] w fun e w' => e = .returned (.bool true) ∧ Below w.heap.size w w' := by
  have h' : (16384 : Int) < N := by omega
  by_cases h2 : N ≤ 1048576
  · go_enter Try.func9, Try.ntmps9
    go_wp2_with fail
    refine (bytes27_any _ _ _ _ _ _ _ _ _ _ _ h2).mono ?_
    rintro e w1 ⟨rfl, hb⟩
    go_wp2_with fail
    go_ret
    exact ⟨rfl, ((Below.refl _ _).alloc (Nat.le_refl _) _).trans (hb.mono (by simp))⟩
  · go_enter Try.func9, Try.ntmps9
    go_wp2_with fail
    refine (bytes27_no _ _ _ _ _ _ _ _ _ _ _ h2).mono ?_
    rintro e w1 ⟨rfl, hb⟩
    go_wp2_with fail
    go_ret
    exact ⟨rfl, ((Below.refl _ _).alloc (Nat.le_refl _) _).trans (hb.mono (by simp))⟩

theorem sides (os : List Ord6) : (∀ i, i < os.length → (os.getD i Ord6.zero).sd = 1 ∨ (os.getD i Ord6.zero).sd = 2) ∨
    ∃ m, m < os.length ∧ (∀ i, i < m → (os.getD i Ord6.zero).sd = 1 ∨ (os.getD i Ord6.zero).sd = 2) ∧ ¬ ((os.getD m Ord6.zero).sd = 1 ∨ (os.getD m Ord6.zero).sd = 2) := by
  suffices h : ∀ n, n ≤ os.length → (∀ i, i < n → (os.getD i Ord6.zero).sd = 1 ∨ (os.getD i Ord6.zero).sd = 2) ∨
      ∃ m, m < n ∧ (∀ i, i < m → (os.getD i Ord6.zero).sd = 1 ∨ (os.getD i Ord6.zero).sd = 2) ∧ ¬ ((os.getD m Ord6.zero).sd = 1 ∨ (os.getD m Ord6.zero).sd = 2) from h _ (Nat.le_refl _)
  intro n
  induction n with
  | zero => exact fun _ => .inl (fun i hi => by omega)
  | succ n ih =>
    intro hn
    rcases ih (by omega) with h | ⟨m, hm, h1, h2⟩
    · by_cases hs : (os.getD n Ord6.zero).sd = 1 ∨ (os.getD n Ord6.zero).sd = 2
      · refine .inl (fun i hi => ?_)
        by_cases e : i = n
        · rw [e]; exact hs
        · exact h i (by omega)
      · exact .inr ⟨n, by omega, h, hs⟩
    · exact .inr ⟨m, by omega, h1, h2⟩

set_option maxRecDepth 100000 in
set_option maxHeartbeats 4000000 in
theorem law5_side (os : List Ord6) (a0 a1 a2 : Int) (c : Bool) (ls lk lt : Int) (sp : Option Addr) (N cap gs off m : Nat) (w : World) (hN : os.length = N) (h : N ≤ 16384) (hsp : sp = some ⟨gs, off, none⟩) (hin : InAt os gs off w)
    (hm : m < N) (hok : ∀ i, i < m → (os.getD i Ord6.zero).sd = 1 ∨ (os.getD i Ord6.zero).sd = 2) (hbad : ¬ ((os.getD m Ord6.zero).sd = 1 ∨ (os.getD m Ord6.zero).sd = 2)) :
    Calls Try.prog 9 #[.int .i64 a0, .int .u64 a1, .int .u64 a2, .bool c, .agg #[.int .u8 ls, .int .i64 lk, .int .i64 lt], .slice sp N cap] w fun e w' => e = .returned (.bool true) ∧ Below w.heap.size w w' := by
  subst hsp
  have h1 : ¬ (16384 : Int) < N := by omega
  have h2 : N ≤ 1048576 := by omega
  have HN := hidP hN
  have HI := hidP hin
  have HOK := hidP hok
  have HB := hidP hbad
  clear hN hin hok hbad
  go_enter Try.func9, Try.ntmps9
  go_wp2_with fail
  refine (bytes27_any _ _ _ _ _ _ _ _ _ _ _ h2).mono ?_
  rintro e w1 ⟨rfl, hb⟩
  have hbel : Below w.heap.size w w1 := ((Below.refl _ _).alloc (Nat.le_refl _) _).trans (hb.mono (by simp))
  have HI1 := hidP (HI.out.below hbel (Nat.le_refl _))
  have HW := hidP hbel
  clear hb hbel HI
  go_wp2_with fail
  go_loopw [13] (fun i x => ∃ k : Nat, i = .int .i64 k ∧ k ≤ m ∧ x = w1) (fun i _ => N - (intOf i).toNat)
  case atStart => exact ⟨0, rfl, by omega, rfl⟩
  case round =>
    obtain ⟨k, rfl, hk, rfl⟩ := hrel
    have hkN : (k : Int) < N := by omega
    have hk0 : (0 : Int) ≤ k := by omega
    have hc : wr.cell? ⟨gs, off + k * 6 + 1, none⟩ = some (.int .u8 (os.getD k Ord6.zero).sd) := HI1.out.cells k (by rw [HN.out]; omega) 1 (by omega)
    by_cases e : k = m
    · subst e
      have b0 : ¬ ((os.getD k Ord6.zero).sd = 1 ∨ (os.getD k Ord6.zero).sd = 2) := HB.out
      generalize (os.getD k Ord6.zero).sd = s at hc b0
      have b1 : (s != 1) = true := by simp; omega
      have b2 : (s != 2) = true := by simp; omega
      clear b0
      go_wp2_with fail
      go_ret
      exact ⟨rfl, HW.out⟩
    · have b0 := HOK.out k (by omega)
      generalize (os.getD k Ord6.zero).sd = s at hc b0
      rcases b0 with rfl | rfl
      · go_wp2_with fail
        exact ⟨⟨k + 1, by simp, by omega, trivial⟩, by simp [intOf]; omega⟩
      · go_wp2_with fail
        exact ⟨⟨k + 1, by simp, by omega, trivial⟩, by simp [intOf]; omega⟩
end Go.Proofs.Qxb6616641a
