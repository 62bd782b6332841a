import Derived.Test.Qxb6617645aHits
namespace Go.Proofs.Qxb6617645a
open Go.RowKit
set_option linter.unusedVariables false

theorem bytes8_any (h : ByteArray) (s t : Int) (w : World) (hs : h.size ≤ 1048576) :
    Calls Try.prog 8 #[.string h, .int .u64 s, .int .u64 t] w fun e w' => e = .returned (.bool true) ∧ w' = w := by
  go_enter Try.func8, Try.ntmps8
  go_wp2
  go_ret
  exact ⟨rfl, rfl⟩
theorem bytes8_no (h : ByteArray) (s t : Int) (w : World) (hs : 1048576 < h.size) :
    Calls Try.prog 8 #[.string h, .int .u64 s, .int .u64 t] w fun e w' => e = .returned (.bool false) ∧ w' = w := by
  go_enter Try.func8, Try.ntmps8
  go_wp2
  go_ret
  exact ⟨rfl, rfl⟩
theorem mono_long (h : ByteArray) (s t : Int) (w : World) (hs : 1048576 < h.size) :
    Calls Try.prog 4 #[.string h, .int .u64 s, .int .u64 t] w fun e w' => e = .returned (.bool true) ∧ Grown w w' := by
  go_enter Try.func4, Try.ntmps4
  go_wp2_with (go_at_call 8; refine (bytes8_no h s t _ hs).mono ?_; rintro e w' ⟨rfl, rfl⟩)
  go_ret
  exact ⟨rfl, Grown.refl _⟩
theorem mono_mid (h : ByteArray) (s t : Int) (w : World) (hs : h.size ≤ 1048576) (hs2 : 65536 < h.size) :
    Calls Try.prog 4 #[.string h, .int .u64 s, .int .u64 t] w fun e w' => e = .returned (.bool true) ∧ Grown w w' := by
  go_enter Try.func4, Try.ntmps4
  go_wp2_with (go_at_call 8; refine (bytes8_any h s t _ hs).mono ?_; rintro e w' ⟨rfl, rfl⟩)
  go_ret
  exact ⟨rfl, Grown.refl _⟩

theorem zzHits_zero (h : ByteArray) (w : World) (hs : h.size ≤ 1048576) :
    Calls Try.prog 7 #[.string h, .int .u64 0] w fun e w' => e = .returned (.bool (decide ((h.size : Int) < 2))) ∧ ∃ n, w' = w.drewN n := by
  have := zzHits_any h 0 (by decide) w hs
  rw [hits_zero] at this
  have e : decide (h.data.toList.length < 2) = decide ((h.size : Int) < 2) := by
    rw [decide_eq_decide]; simp; omega
  rw [e] at this
  exact this
theorem zzHits_full (h : ByteArray) (w : World) (hs : h.size ≤ 1048576) :
    Calls Try.prog 7 #[.string h, .int .u64 18446744073709551615] w fun e w' => e = .returned (.bool (noEmpty h.data.toList)) ∧ ∃ n, w' = w.drewN n := by
  have := zzHits_any h 18446744073709551615 (by decide) w hs
  rw [hits_all] at this
  exact this
theorem grown_drewN {W w : World} (h : Grown W w) (n : Nat) : Grown W (w.drewN n) := h

set_option maxHeartbeats 1000000 in
theorem mono_main (h : ByteArray) (s t : Nat) (w : World) (hs : h.size ≤ 65536) (h1 : s < 18446744073709551616) (h2 : t < 18446744073709551616) :
    Calls Try.prog 4 #[.string h, .int .u64 s, .int .u64 t] w fun e w' => e = .returned (.bool true) ∧ Grown w w' := by
  have hs1 : h.size ≤ 1048576 := by omega
  have e1 : bits .or .u64 (s : Int) (t : Int) = ((s ||| t : Nat) : Int) := u64_or_nat s t h1 h2
  have e2 : bits .and .u64 (s : Int) 65535 = ((s &&& 65535 : Nat) : Int) := u64_and_nat s 65535 h1 (by decide)
  have H0 : Hid (∀ w, Calls Try.prog 7 #[.string h, .int .u64 (s : Int)] w fun e w' => e = .returned (.bool (hits h.data.toList s)) ∧ ∃ n, w' = w.drewN n) := fun w => zzHits_any h s h1 w hs1
  have H2 : Hid (∀ w, Calls Try.prog 7 #[.string h, .int .u64 ((s &&& 65535 : Nat) : Int)] w fun e w' => e = .returned (.bool (hits h.data.toList s)) ∧ ∃ n, w' = w.drewN n) := fun w => by
    have := zzHits_any h (s &&& 65535) (Nat.lt_of_le_of_lt Nat.and_le_left h1) w hs1
    rw [hits_low] at this
    exact this
  have H3 : Hid (∀ w, Calls Try.prog 9 #[.string h] w fun e w' => e = .returned (.bool (noEmpty h.data.toList)) ∧ w' = w) := fun w => noEmpty_any h w hs1
  have H4 : Hid (∀ w, Calls Try.prog 7 #[.string h, .int .u64 18446744073709551615] w fun e w' => e = .returned (.bool (noEmpty h.data.toList)) ∧ ∃ n, w' = w.drewN n) := fun w => zzHits_full h w hs1
  generalize noEmpty h.data.toList = z at H3 H4
  cases hb : hits h.data.toList s
  · rw [hb] at H0 H2
    clear hb e1
    generalize (s &&& 65535) = q at e2 H2
    go_enter Try.func4, Try.ntmps4
    go_wp2_with (go_at_call 8; refine (bytes8_any h _ _ _ hs1).mono ?_; rintro e w' ⟨rfl, hw⟩; subst hw)
    refine (H0.out _).mono ?_
    rintro e w1 ⟨rfl, n1, hw⟩; subst hw
    go_wp2_with fail
    refine (H2.out _).mono ?_
    rintro e w1 ⟨rfl, n2, hw⟩; subst hw
    go_wp2_with fail
    refine (zzHits_zero h _ hs1).mono ?_
    rintro e w1 ⟨rfl, n3, hw⟩; subst hw
    go_wp2_with fail
    refine (H4.out _).mono ?_
    rintro e w1 ⟨rfl, n4, hw⟩; subst hw
    go_wp2_with fail
    refine (H3.out _).mono ?_
    rintro e w1 ⟨rfl, hw⟩; subst hw
    go_wp2_with fail
    go_ret
    exact ⟨rfl, by repeat (first | exact Grown.refl _ | apply grown_drewN)⟩
  · have H1 : Hid (∀ w, Calls Try.prog 7 #[.string h, .int .u64 ((s ||| t : Nat) : Int)] w fun e w' => e = .returned (.bool true) ∧ ∃ n, w' = w.drewN n) := fun w => by
      have := zzHits_any h _ (Nat.or_lt_two_pow (n := 64) h1 h2) w hs1
      rw [hits_or _ s t hb] at this
      exact this
    rw [hb] at H0 H2
    clear hb
    generalize (s ||| t) = m at e1 H1
    generalize (s &&& 65535) = q at e2 H2
    go_enter Try.func4, Try.ntmps4
    go_wp2_with (go_at_call 8; refine (bytes8_any h _ _ _ hs1).mono ?_; rintro e w' ⟨rfl, hw⟩; subst hw)
    refine (H0.out _).mono ?_
    rintro e w1 ⟨rfl, n1, hw⟩; subst hw
    go_wp2_with fail
    refine (H1.out _).mono ?_
    rintro e w1 ⟨rfl, n5, hw⟩; subst hw
    go_wp2_with fail
    refine (H2.out _).mono ?_
    rintro e w1 ⟨rfl, n2, hw⟩; subst hw
    go_wp2_with fail
    refine (zzHits_zero h _ hs1).mono ?_
    rintro e w1 ⟨rfl, n3, hw⟩; subst hw
    go_wp2_with fail
    refine (H4.out _).mono ?_
    rintro e w1 ⟨rfl, n4, hw⟩; subst hw
    go_wp2_with fail
    refine (H3.out _).mono ?_
    rintro e w1 ⟨rfl, hw⟩; subst hw
    go_wp2_with fail
    go_ret
    exact ⟨rfl, by repeat (first | exact Grown.refl _ | apply grown_drewN)⟩

theorem nat_of_wf {x : Int} (h : (Lit.int .u64 x).wf = true) : ∃ n : Nat, x = n ∧ n < 18446744073709551616 := by
  simp [Lit.wf, IntKind.min, IntKind.max, IntKind.signed, IntKind.bits] at h
  exact ⟨x.toNat, by omega, by omega⟩

theorem mono_all (h : ByteArray) (s t : Int) (w1 : (Lit.int .u64 s).wf = true) (w2 : (Lit.int .u64 t).wf = true) (w : World) :
    Calls Try.prog 4 #[.string h, .int .u64 s, .int .u64 t] w fun e w' => e = .returned (.bool true) ∧ Grown w w' := by
  obtain ⟨s, rfl, h1⟩ := nat_of_wf w1
  obtain ⟨t, rfl, h2⟩ := nat_of_wf w2
  by_cases g1 : h.size ≤ 1048576
  · by_cases g2 : h.size ≤ 65536
    · exact mono_main h s t w g2 h1 h2
    · exact mono_mid h s t w g1 (by omega)
  · exact mono_long h s t w (by omega)
end Go.Proofs.Qxb6617645a
