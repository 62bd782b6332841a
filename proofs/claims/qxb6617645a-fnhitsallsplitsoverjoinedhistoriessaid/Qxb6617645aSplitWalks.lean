import Derived.Test.Qxb6617645aHits
import Derived.Lib.Strings
namespace Go.Proofs.Qxb6617645a
open Go.RowKit
set_option linter.unusedVariables false

theorem bytes5_any (h : ByteArray) (c x s : Int) (w : World) (hs : h.size ≤ 1048576) :
    Calls Try.prog 5 #[.string h, .int .i64 c, .int .u64 x, .int .u64 s] w fun e w' => e = .returned (.bool true) ∧ w' = w := by
  go_enter Try.func5, Try.ntmps5
  go_wp2
  go_ret
  exact ⟨rfl, rfl⟩
theorem bytes5_no (h : ByteArray) (c x s : Int) (w : World) (hs : 1048576 < h.size) :
    Calls Try.prog 5 #[.string h, .int .i64 c, .int .u64 x, .int .u64 s] w fun e w' => e = .returned (.bool false) ∧ w' = w := by
  go_enter Try.func5, Try.ntmps5
  go_wp2
  go_ret
  exact ⟨rfl, rfl⟩
theorem split_long (h : ByteArray) (c x s : Int) (w : World) (hs : 1048576 < h.size) :
    Calls Try.prog 3 #[.string h, .int .i64 c, .int .u64 x, .int .u64 s] w fun e w' => e = .returned (.bool true) ∧ Grown w w' := by
  go_enter Try.func3, Try.ntmps3
  go_wp2_with (go_at_call 5; refine (bytes5_no h c x s _ hs).mono ?_; rintro e w' ⟨rfl, rfl⟩)
  go_ret
  exact ⟨rfl, Grown.refl _⟩
theorem split_mid (h : ByteArray) (c x s : Int) (w : World) (hs : h.size ≤ 1048576) (hs2 : 65536 < h.size) :
    Calls Try.prog 3 #[.string h, .int .i64 c, .int .u64 x, .int .u64 s] w fun e w' => e = .returned (.bool true) ∧ Grown w w' := by
  go_enter Try.func3, Try.ntmps3
  go_wp2_with (go_at_call 5; refine (bytes5_any h c x s _ hs).mono ?_; rintro e w' ⟨rfl, rfl⟩)
  go_ret
  exact ⟨rfl, Grown.refl _⟩
theorem split_neg (h : ByteArray) (c x s : Int) (w : World) (hs : h.size ≤ 65536) (hc : c < 0) :
    Calls Try.prog 3 #[.string h, .int .i64 c, .int .u64 x, .int .u64 s] w fun e w' => e = .returned (.bool true) ∧ Grown w w' := by
  have hd : decide (c < 0) = true := by simpa using hc
  go_enter Try.func3, Try.ntmps3
  go_wp2_with (go_at_call 5; refine (bytes5_any h c x s _ (by omega)).mono ?_; rintro e w' ⟨rfl, rfl⟩)
  go_ret
  exact ⟨rfl, Grown.refl _⟩
theorem split_far (h : ByteArray) (c x s : Int) (w : World) (hs : h.size ≤ 65536) (hc : ¬ c < 0) (hc2 : (h.size : Int) / 2 < c) :
    Calls Try.prog 3 #[.string h, .int .i64 c, .int .u64 x, .int .u64 s] w fun e w' => e = .returned (.bool true) ∧ Grown w w' := by
  have hd : decide (c < 0) = false := by simpa using hc
  go_enter Try.func3, Try.ntmps3
  go_wp2_with (go_at_call 5; refine (bytes5_any h c x s _ (by omega)).mono ?_; rintro e w' ⟨rfl, rfl⟩)
  go_ret
  exact ⟨rfl, Grown.refl _⟩

theorem grown_drewN {W w : World} (h : Grown W w) (n : Nat) : Grown W (w.drewN n) := h

theorem pair_hits (x s : Nat) : ((((x &&& s &&& 65535 : Nat) : Int)) != 0) = hits [UInt8.ofNat x, UInt8.ofNat (x / 256)] s := by
  have e : (UInt8.ofNat x).toNat + 256 * (UInt8.ofNat (x / 256)).toNat = x % 65536 := by
    simp; omega
  have e2 : x % 65536 &&& s = x &&& s &&& 65535 := by
    rw [show x % 65536 = x &&& 65535 by rw [show (65535 : Nat) = 2 ^ 16 - 1 from rfl, Nat.and_two_pow_sub_one_eq_mod]]
    rw [Nat.and_assoc, Nat.and_comm 65535 s, ← Nat.and_assoc]
  simp only [hits, e, e2, Bool.and_true]
  rw [Bool.eq_iff_iff]
  simp

theorem extract_list (h : ByteArray) (a b : Nat) : (h.extract a b).data.toList = (h.data.toList.take b).drop a := by
  simp [ByteArray.data_extract, List.drop_take]

theorem cut_hits (h : ByteArray) (c s : Nat) (hc : 2 * c ≤ h.size) : hits h.data.toList s = (hits (h.extract 0 (2 * c)).data.toList s && hits (h.extract (2 * c) h.size).data.toList s) := by
  rw [← hits_append _ _ _ (by rw [extract_list]; simp; omega), extract_list, extract_list]
  congr 1
  have e : h.data.toList.take h.size = h.data.toList := List.take_of_length_le (by simp)
  rw [e, List.drop_zero, List.take_append_drop]

theorem join_hits (h : ByteArray) (c s : Nat) (a b : UInt8) (hc : 2 * c ≤ h.size) :
    hits (h.extract 0 (2 * c) ++ ⟨#[a, b]⟩ ++ h.extract (2 * c) h.size).data.toList s = (hits (h.extract 0 (2 * c)).data.toList s && hits [a, b] s && hits (h.extract (2 * c) h.size).data.toList s) := by
  have hl : (h.extract 0 (2 * c)).data.toList.length % 2 = 0 := by rw [extract_list]; simp; omega
  have e : (h.extract 0 (2 * c) ++ ⟨#[a, b]⟩ ++ h.extract (2 * c) h.size).data.toList = (h.extract 0 (2 * c)).data.toList ++ [a, b] ++ (h.extract (2 * c) h.size).data.toList := by
    simp [ByteArray.data_append]
  rw [e, hits_append _ _ _ (by rw [List.length_append]; simp only [List.length_cons, List.length_nil]; omega), hits_append _ _ _ hl]

set_option maxHeartbeats 1000000 in
theorem split_main (h : ByteArray) (c x s : Nat) (w : World) (hs : h.size ≤ 65536) (hc : 2 * c ≤ h.size) (h1 : x < 18446744073709551616) (h2 : s < 18446744073709551616) :
    Calls Try.prog 3 #[.string h, .int .i64 c, .int .u64 x, .int .u64 s] w fun e w' => e = .returned (.bool true) ∧ Grown w w' := by
  have hs1 : h.size ≤ 1048576 := by omega
  have hd : decide ((c : Int) < 0) = false := by simp
  have hd2 : ¬ ((h.size : Int) / 2 < c) := by omega
  have e1 : bits .and .u64 (x : Int) (s : Int) = ((x &&& s : Nat) : Int) := u64_and_nat x s h1 h2
  have e2 : bits .and .u64 ((x &&& s : Nat) : Int) 65535 = ((x &&& s &&& 65535 : Nat) : Int) := u64_and_nat _ 65535 (Nat.lt_of_le_of_lt Nat.and_le_left h1) (by decide)
  have eM : ((((x &&& s &&& 65535 : Nat) : Int)) != 0) = hits [UInt8.ofNat x, UInt8.ofNat (x / 256)] s := pair_hits x s
  have C1 : Hid (∀ w, Calls Try.prog 7 #[.string (h.extract 0 (2 * c) ++ ⟨#[UInt8.ofNat x, UInt8.ofNat (x / 256)]⟩ ++ h.extract (2 * c) h.size), .int .u64 (s : Int)] w fun e w' => e = .returned (.bool (hits (h.extract 0 (2 * c)).data.toList s && hits [UInt8.ofNat x, UInt8.ofNat (x / 256)] s && hits (h.extract (2 * c) h.size).data.toList s)) ∧ ∃ n, w' = w.drewN n) := fun w => by
    have := zzHits_any (h.extract 0 (2 * c) ++ ⟨#[UInt8.ofNat x, UInt8.ofNat (x / 256)]⟩ ++ h.extract (2 * c) h.size) s h2 w (by simp [ByteArray.size_append, ByteArray.size_extract]; have e : (⟨#[UInt8.ofNat x, UInt8.ofNat (x / 256)]⟩ : ByteArray).size = 2 := rfl; omega)
    rw [join_hits h c s (UInt8.ofNat x) (UInt8.ofNat (x / 256)) hc] at this
    exact this
  have C2 : Hid (∀ w, Calls Try.prog 7 #[.string (h.extract 0 (2 * c)), .int .u64 (s : Int)] w fun e w' => e = .returned (.bool (hits (h.extract 0 (2 * c)).data.toList s)) ∧ ∃ n, w' = w.drewN n) := fun w => zzHits_any _ s h2 w (by simp; omega)
  have C3 : Hid (∀ w, Calls Try.prog 7 #[.string ⟨#[UInt8.ofNat x, UInt8.ofNat (x / 256)]⟩, .int .u64 (s : Int)] w fun e w' => e = .returned (.bool (hits [UInt8.ofNat x, UInt8.ofNat (x / 256)] s)) ∧ ∃ n, w' = w.drewN n) := fun w => zzHits_any ⟨#[UInt8.ofNat x, UInt8.ofNat (x / 256)]⟩ s h2 w (by show 2 ≤ 1048576; omega)
  have C4 : Hid (∀ w, Calls Try.prog 7 #[.string (h.extract (2 * c) h.size), .int .u64 (s : Int)] w fun e w' => e = .returned (.bool (hits (h.extract (2 * c) h.size).data.toList s)) ∧ ∃ n, w' = w.drewN n) := fun w => zzHits_any _ s h2 w (by simp; omega)
  have C5 : Hid (∀ w, Calls Try.prog 7 #[.string h, .int .u64 (s : Int)] w fun e w' => e = .returned (.bool (hits (h.extract 0 (2 * c)).data.toList s && hits (h.extract (2 * c) h.size).data.toList s)) ∧ ∃ n, w' = w.drewN n) := fun w => by
    have := zzHits_any h s h2 w hs1
    rw [cut_hits h c s hc] at this
    exact this
  generalize hits (h.extract 0 (2 * c)).data.toList s = A at C1 C2 C5
  generalize hits (h.extract (2 * c) h.size).data.toList s = R at C1 C4 C5
  generalize hits [UInt8.ofNat x, UInt8.ofNat (x / 256)] s = M at C1 C3 eM
  generalize (x &&& s) = xs at e1 e2 eM
  generalize (xs &&& 65535) = q at e2 eM
  cases A
  all_goals
    cases M
    all_goals
      simp only [Bool.and_true, Bool.true_and, Bool.and_false, Bool.false_and] at C1 C5
      go_enter Try.func3, Try.ntmps3
      go_wp2_with (first
        | (go_at_call 5; refine (bytes5_any h _ _ _ _ hs1).mono ?_; rintro e w' ⟨rfl, hw⟩; subst hw)
        | (go_at_call 6; refine (pair_any x _).mono ?_; rintro e w' ⟨rfl, cc, hw⟩; subst hw))
      refine (C1.out _).mono ?_
      rintro e w1 ⟨rfl, n1, hw⟩; subst hw
      go_wp2_with fail
      refine (C2.out _).mono ?_
      rintro e w1 ⟨rfl, n2, hw⟩; subst hw
      go_wp2_with fail
      refine (C3.out _).mono ?_
      rintro e w1 ⟨rfl, n3, hw⟩; subst hw
      go_wp2_with fail
      refine (C4.out _).mono ?_
      rintro e w1 ⟨rfl, n4, hw⟩; subst hw
      go_wp2_with fail
      refine (C5.out _).mono ?_
      rintro e w1 ⟨rfl, n5, hw⟩; subst hw
      go_wp2_with fail
      go_ret
      exact ⟨rfl, by repeat (first | exact Grown.refl _ | apply grown_drewN | apply Grown.alloc)⟩

theorem nat_of_wf {x : Int} (h : (Lit.int .u64 x).wf = true) : ∃ n : Nat, x = n ∧ n < 18446744073709551616 := by
  simp [Lit.wf, IntKind.min, IntKind.max, IntKind.signed, IntKind.bits] at h
  exact ⟨x.toNat, by omega, by omega⟩

theorem split_all (h : ByteArray) (c x s : Int) (w2 : (Lit.int .u64 x).wf = true) (w3 : (Lit.int .u64 s).wf = true) (w : World) :
    Calls Try.prog 3 #[.string h, .int .i64 c, .int .u64 x, .int .u64 s] w fun e w' => e = .returned (.bool true) ∧ Grown w w' := by
  obtain ⟨x, rfl, h1⟩ := nat_of_wf w2
  obtain ⟨s, rfl, h2⟩ := nat_of_wf w3
  by_cases g1 : h.size ≤ 1048576
  · by_cases g2 : h.size ≤ 65536
    · by_cases g3 : c < 0
      · exact split_neg h c x s w g2 g3
      · by_cases g4 : (h.size : Int) / 2 < c
        · exact split_far h c x s w g2 g3 g4
        · obtain ⟨c, rfl⟩ := Int.eq_ofNat_of_zero_le (by omega : 0 ≤ c)
          exact split_main h c x s w g2 (by omega) h1 h2
    · exact split_mid h c x s w g1 (by omega)
  · exact split_long h c x s w (by omega)
end Go.Proofs.Qxb6617645a
