import Derived.Test.Qxb6617645aRows
import Derived.WalkKit
import Derived.WalkSpells
import Derived.Outline
import Derived.RowKit3
import Derived.LoopN
import Derived.Deep.QuietTactic
import Derived.BigQuiet
import Derived.Laws.BitsAllLaws
import Derived.Laws.IdiomStrings
namespace Go.Proofs.Qxb6617645a
open Go.RowKit
set_option linter.unusedVariables false

/-- Does s share a process with every whole entry? -/
def hits : List UInt8 → Nat → Bool
  | a :: b :: r, s => ((a.toNat + 256 * b.toNat) &&& s != 0) && hits r s
  | _, _ => true

/-- Entry k. -/
def ent (l : List UInt8) (k : Nat) : Nat := (l[2 * k]?.getD 0).toNat + 256 * (l[2 * k + 1]?.getD 0).toNat

theorem hits_false (l : List UInt8) (s k : Nat) (hk : 2 * k + 1 < l.length) (h : ent l k &&& s = 0) : hits l s = false := by
  induction k generalizing l with
  | zero =>
    match l, hk with
    | a :: b :: r, _ => simp [ent] at h; simp [hits, h]
  | succ k ih =>
    match l, hk with
    | a :: b :: r, hk =>
      have := ih r (by simp at hk; omega) (by simpa [ent, Nat.mul_add] using h)
      simp [hits, this]

theorem hits_true (l : List UInt8) (s : Nat) (h : ∀ k, 2 * k + 1 < l.length → ¬ ent l k &&& s = 0) : hits l s = true := by
  match l with
  | [] => rfl
  | [a] => rfl
  | a :: b :: r =>
    have h0 := h 0 (by simp)
    have := hits_true r s (fun k hk => by
      have := h (k + 1) (by simp; omega)
      simpa [ent, Nat.mul_add] using this)
    simp [ent] at h0
    simp [hits, this, h0]

theorem or_shl (a b : Nat) (ha : a < 256) : a ||| b * 256 = a + 256 * b := by
  have := Nat.shiftLeft_add_eq_or_of_lt (b := a) (i := 8) (by simpa using ha) b
  rw [Nat.shiftLeft_eq] at this
  rw [Nat.or_comm, show b * 256 = b * 2 ^ 8 from rfl, ← this]
  omega

theorem at_val (a b : UInt8) : bits .or .u64 (IntKind.u64.wrap (a.toNat : Int)) (IntKind.u64.wrap (IntKind.u64.wrap (b.toNat : Int) * 256)) = ((a.toNat + 256 * b.toNat : Nat) : Int) := by
  have ha := a.toNat_lt
  have hb := b.toNat_lt
  have e1 : IntKind.u64.wrap (a.toNat : Int) = (a.toNat : Int) := by simp [IntKind.wrap, IntKind.signed, IntKind.bits]; omega
  have e2 : IntKind.u64.wrap (b.toNat : Int) = (b.toNat : Int) := by simp [IntKind.wrap, IntKind.signed, IntKind.bits]; omega
  have e3 : IntKind.u64.wrap ((b.toNat : Int) * 256) = ((b.toNat * 256 : Nat) : Int) := by simp [IntKind.wrap, IntKind.signed, IntKind.bits]; omega
  rw [e1, e2, e3, u64_or_nat _ _ (by omega) (by omega), or_shl _ _ (by omega)]

theorem byte_at (h : ByteArray) (i : Nat) (hi : i < h.size) : h[i] = h.data.toList[i]?.getD 0 := by
  have : i < h.data.toList.length := by simpa using hi
  rw [List.getElem?_eq_getElem this]
  rfl

theorem size_any (h : ByteArray) (w : World) (hs : h.size ≤ 1048576) : Calls Try.prog 11 #[.string h] w fun e w' => e = .returned (.int .i64 ((h.size / 2 : Nat) : Int)) ∧ w' = w := by
  go_enter Try.func11, Try.ntmps11
  go_wp2
  go_ret
  exact ⟨by simp, rfl⟩

theorem at_any (h : ByteArray) (k : Nat) (w : World) (hs : h.size ≤ 1048576) (hk : 2 * k + 1 < h.size) : Calls Try.prog 12 #[.string h, .int .i64 k] w fun e w' => e = .returned (.int .u64 (ent h.data.toList k : Nat)) ∧ w' = w.drew := by
  have g0 : (0 : Int) ≤ 2 * k := by omega
  have g1 : (2 : Int) * k < h.size := by omega
  have g2 : (0 : Int) ≤ 2 * k + 1 := by omega
  have g3 : (2 : Int) * k + 1 < h.size := by omega
  go_enter Try.func12, Try.ntmps12
  go_wp2
  go_region
  go_wp2
  go_ret
  refine ⟨?_, rfl⟩
  have e := at_val h[2 * k] h[2 * k + 1]
  rw [byte_at h (2 * k) (by omega), byte_at h (2 * k + 1) hk] at e
  show Ending.returned (.int .u64 _) = _
  rw [byte_at h (2 * k) (by omega), byte_at h (2 * k + 1) hk, e]
  rfl

theorem pair_any (x : Nat) (w : World) : Calls Try.prog 6 #[.int .u64 x] w fun e w' => e = .returned (.string ⟨#[UInt8.ofNat x, UInt8.ofNat (x / 256)]⟩) ∧ ∃ c, w' = w.alloc (.cells c 5) := by
  have hcv : (convert 29 9 (.slice (some ⟨w.heap.size, 0, none⟩) 2 2)).run Try.prog (w.alloc (.cells #[.int .u8 ((x : Int) % 256), .int .u8 ((x : Int) / 256 % 256)] 5)) = .ok (.string ⟨#[UInt8.ofNat x, UInt8.ofNat (x / 256)]⟩) (w.alloc (.cells #[.int .u8 ((x : Int) % 256), .int .u8 ((x : Int) / 256 % 256)] 5)) := by
    refine run_convert_bytes_back _ 29 9 5 ⟨w.heap.size, 0, none⟩ 2 [UInt8.ofNat x, UInt8.ofNat (x / 256)] Try.underlying29 Try.underlying5 Try.underlying9 ?_
    intro j hj
    match j, hj with
    | 0, _ => simp [Addr.add]
    | 1, _ => simp [Addr.add]
  go_enter Try.func6, Try.ntmps6
  go_wp2
  go_ret
  exact ⟨rfl, _, rfl⟩

theorem and_nat (a b : Nat) (ha : a < 18446744073709551616) (hb : b < 18446744073709551616) : bits .and .u64 (a : Int) (b : Int) = ((a &&& b : Nat) : Int) := u64_and_nat a b ha hb

theorem ent_lt (l : List UInt8) (k : Nat) : ent l k < 65536 := by
  unfold ent
  have := (l[2 * k]?.getD 0).toNat_lt
  have := (l[2 * k + 1]?.getD 0).toNat_lt
  omega

set_option maxHeartbeats 1000000 in
theorem hitsAll_any (h : ByteArray) (s : Nat) (hsn : s < 18446744073709551616) (w : World) (hs : h.size ≤ 1048576) :
    Calls Try.prog 10 #[.string h, .int .u64 s] w fun e w' => e = .returned (.bool (hits h.data.toList s)) ∧ ∃ n, w' = w.drewN n := by
  have HN : Hid (s < 18446744073709551616) := hsn
  clear hsn
  go_enter Try.func10, Try.ntmps10
  go_wp2_with (go_at_call 11; refine (size_any h _ hs).mono ?_; rintro e w' ⟨rfl, hw⟩; subst hw)
  go_loopw [8] (fun i wr => ∃ k : Nat, k ≤ h.size / 2 ∧ i = .int .i64 k ∧ (∀ j, j < k → ¬ ent h.data.toList j &&& s = 0) ∧ ∃ n, wr = w'.drewN n) (fun i _ => h.size / 2 - (intOf i).toNat)
  case atStart => exact ⟨0, Nat.zero_le _, rfl, fun j hj => by omega, 0, rfl⟩
  case round =>
    obtain ⟨k, hk, rfl, he, n, rfl⟩ := hrel
    have HE : Hid (∀ j, j < k → ¬ ent h.data.toList j &&& s = 0) := he
    clear he
    by_cases hlt : k < h.size / 2
    · have hlt' : (k : Int) < (h.size / 2 : Nat) := by omega
      have hb := and_nat (ent h.data.toList k) s (by have := ent_lt h.data.toList k; omega) HN.out
      obtain ⟨v, hv⟩ : ∃ v, v = ent h.data.toList k := ⟨_, rfl⟩
      rw [← hv] at hb
      have HV : Hid (ent h.data.toList k = v) := hv.symm
      clear hv
      obtain ⟨z, hz⟩ : ∃ z, z = v &&& s := ⟨_, rfl⟩
      rw [← hz] at hb
      have HZ : Hid (v &&& s = z) := hz.symm
      clear hz
      have HA : Hid (∀ w, Calls Try.prog 12 #[.string h, .int .i64 k] w fun e w' => e = .returned (.int .u64 (v : Int)) ∧ w' = w.drew) := by
        intro w
        have := at_any h k w hs (by omega)
        rw [HV.out] at this
        exact this
      by_cases hzz : z = 0
      · have ht : ((z : Int) == 0) = true := by simp [hzz]
        go_wp2_with (go_at_call 12; refine (HA.out _).mono ?_; rintro e w'' ⟨rfl, hw⟩; subst hw)
        go_ret
        refine ⟨?_, _, rfl⟩
        rw [hits_false h.data.toList s k (by simp; omega) (by rw [HV.out, HZ.out]; exact hzz)]; rfl
      · have ht : ((z : Int) == 0) = false := by simp; omega
        go_wp2_with (go_at_call 12; refine (HA.out _).mono ?_; rintro e w'' ⟨rfl, hw⟩; subst hw)
        go_roundw
        case rel => exact ⟨k + 1, by omega, by go_num, fun j hj => by
          by_cases hjk : j < k
          · exact HE.out j hjk
          · obtain rfl : j = k := by omega
            rw [HV.out, HZ.out]; exact hzz, _, rfl⟩
        case measure => simp [intOf]; omega
    · go_wp2_with fail
      go_ret
      refine ⟨?_, _, rfl⟩
      rw [hits_true h.data.toList s (fun j hj => HE.out j (by simp at hj; omega))]; rfl

theorem zzHits_any (h : ByteArray) (s : Nat) (hsn : s < 18446744073709551616) (w : World) (hs : h.size ≤ 1048576) :
    Calls Try.prog 7 #[.string h, .int .u64 s] w fun e w' => e = .returned (.bool (hits h.data.toList s)) ∧ ∃ n, w' = w.drewN n := by
  go_enter Try.func7, Try.ntmps7
  go_wp2_with (go_at_call 10; refine (hitsAll_any h s hsn _ hs).mono ?_; rintro e w' ⟨rfl, n, hw⟩; subst hw)
  go_ret
  exact ⟨rfl, _, rfl⟩

/-! ### Plain laws -/
theorem hits_append (l r : List UInt8) (s : Nat) (he : l.length % 2 = 0) : hits (l ++ r) s = (hits l s && hits r s) := by
  match l with
  | [] => simp [hits]
  | [a] => simp at he
  | a :: b :: l =>
    have := hits_append l r s (by simp only [List.length_cons] at he; omega)
    simp [hits, this, Bool.and_assoc]

theorem hits_or (l : List UInt8) (s t : Nat) (h : hits l s = true) : hits l (s ||| t) = true := by
  match l with
  | [] => rfl
  | [a] => rfl
  | a :: b :: l =>
    simp [hits] at h
    have := hits_or l s t h.2
    have e : ((a.toNat + 256 * b.toNat) &&& (s ||| t) != 0) = true := by
      rw [bne_iff_ne, Nat.and_or_distrib_left]
      intro h0
      exact h.1 (Nat.or_eq_zero_iff.1 h0).1
    simp only [hits, this, e, Bool.and_self]

theorem hits_low (l : List UInt8) (s : Nat) : hits l (s &&& 65535) = hits l s := by
  match l with
  | [] => rfl
  | [a] => rfl
  | a :: b :: l =>
    have := hits_low l s
    have ha := a.toNat_lt
    have hb := b.toNat_lt
    have e : (a.toNat + 256 * b.toNat) &&& (s &&& 65535) = (a.toNat + 256 * b.toNat) &&& s := by
      rw [Nat.and_comm s 65535, ← Nat.and_assoc]
      have : (a.toNat + 256 * b.toNat) &&& 65535 = a.toNat + 256 * b.toNat := by
        rw [show (65535 : Nat) = 2 ^ 16 - 1 from rfl, Nat.and_two_pow_sub_one_eq_mod]
        omega
      rw [this]
    simp [hits, this, e]

theorem hits_zero (l : List UInt8) : hits l 0 = decide (l.length < 2) := by
  match l with
  | [] => rfl
  | [a] => rfl
  | a :: b :: l => simp [hits]

/-- Is no whole entry the empty set? -/
def noEmpty : List UInt8 → Bool
  | a :: b :: r => !(a == 0 && b == 0) && noEmpty r
  | _ => true

theorem hits_all (l : List UInt8) : hits l 18446744073709551615 = noEmpty l := by
  match l with
  | [] => rfl
  | [a] => rfl
  | a :: b :: l =>
    have := hits_all l
    have ha := a.toNat_lt
    have hb := b.toNat_lt
    have e : (a.toNat + 256 * b.toNat) &&& 18446744073709551615 = a.toNat + 256 * b.toNat := by
      rw [show (18446744073709551615 : Nat) = 2 ^ 64 - 1 from rfl, Nat.and_two_pow_sub_one_eq_mod]
      omega
    have e2 : (a.toNat + 256 * b.toNat != 0) = !(a == 0 && b == 0) := by
      rw [Bool.eq_iff_iff]
      simp [← UInt8.toNat_inj]
      omega
    simp only [hits, noEmpty, e, e2, this]

theorem noEmpty_false (l : List UInt8) (k : Nat) (hk : 2 * k + 1 < l.length) (h0 : l[2 * k]?.getD 0 = 0) (h1 : l[2 * k + 1]?.getD 0 = 0) : noEmpty l = false := by
  induction k generalizing l with
  | zero =>
    match l, hk with
    | a :: b :: r, _ => simp at h0 h1; simp [noEmpty, h0, h1]
  | succ k ih =>
    match l, hk with
    | a :: b :: r, hk =>
      have := ih r (by simp at hk; omega) (by simpa [Nat.mul_add] using h0) (by simpa [Nat.mul_add] using h1)
      simp [noEmpty, this]

theorem noEmpty_true (l : List UInt8) (h : ∀ k, 2 * k + 1 < l.length → ¬ (l[2 * k]?.getD 0 = 0 ∧ l[2 * k + 1]?.getD 0 = 0)) : noEmpty l = true := by
  match l with
  | [] => rfl
  | [a] => rfl
  | a :: b :: r =>
    have h0 := h 0 (by simp)
    have := noEmpty_true r (fun k hk => by
      have := h (k + 1) (by simp; omega)
      simpa [Nat.mul_add] using this)
    simp at h0
    by_cases ha : a = 0
    · simp [noEmpty, this, ha, h0 ha]
    · simp [noEmpty, this, ha]

theorem step_rel {k : Nat} {p : Nat → Prop} (h : ∀ j, j < k → p j) (hk : p k) : ∀ j, j < k + 1 → p j := fun j hj => by
  by_cases hjk : j < k
  · exact h j hjk
  · obtain rfl : j = k := by omega
    exact hk

set_option maxHeartbeats 1000000 in
theorem noEmpty_any (h : ByteArray) (w : World) (hs : h.size ≤ 1048576) :
    Calls Try.prog 9 #[.string h] w fun e w' => e = .returned (.bool (noEmpty h.data.toList)) ∧ w' = w := by
  go_enter Try.func9, Try.ntmps9
  go_wp2
  go_loop [3] (fun i => ∃ k : Nat, 2 * k ≤ h.size + 1 ∧ i = .int .i64 (2 * (k : Int)) ∧ (∀ j, j < k → ¬ (h.data.toList[2 * j]?.getD 0 = 0 ∧ h.data.toList[2 * j + 1]?.getD 0 = 0))) (fun i => h.size + 1 - (intOf i).toNat)
  case atStart => exact ⟨0, by omega, rfl, fun j hj => by omega⟩
  case round =>
    obtain ⟨k, hk, rfl, he⟩ := hrel
    have HE : Hid (∀ j, j < k → ¬ (h.data.toList[2 * j]?.getD 0 = 0 ∧ h.data.toList[2 * j + 1]?.getD 0 = 0)) := he
    clear he
    by_cases hlt : 2 * k + 1 < h.size
    · have g0 : (0 : Int) ≤ 2 * k := by omega
      have g1 : (2 : Int) * k < h.size := by omega
      have g2 : (0 : Int) ≤ 2 * k + 1 := by omega
      have g3 : (2 : Int) * k + 1 < h.size := by omega
      have HZ0 : Hid (h[2 * k].toNat = 0 → h.data.toList[2 * k]?.getD 0 = 0) := fun hz => by rw [← byte_at h (2 * k) (by omega)]; exact UInt8.toNat_inj.1 hz
      have HZ1 : Hid (h[2 * k + 1].toNat = 0 → h.data.toList[2 * k + 1]?.getD 0 = 0) := fun hz => by rw [← byte_at h (2 * k + 1) hlt]; exact UInt8.toNat_inj.1 hz
      have HN0 : Hid (h.data.toList[2 * k]?.getD 0 = 0 → h[2 * k].toNat = 0) := fun hz => by rw [byte_at h (2 * k) (by omega), hz]; rfl
      have HN1 : Hid (h.data.toList[2 * k + 1]?.getD 0 = 0 → h[2 * k + 1].toNat = 0) := fun hz => by rw [byte_at h (2 * k + 1) hlt, hz]; rfl
      go_wp2
      · have hz0 : h[2 * k].toNat = 0 := by assumption
        have hz1 : ((h[2 * k + 1].toNat : Int) == 0) = true := by assumption
        go_ret
        refine ⟨?_, rfl⟩
        rw [noEmpty_false h.data.toList k (by simpa using hlt) (HZ0.out hz0) (HZ1.out (by simpa using hz1))]; rfl
      · have hz1 : ((h[2 * k + 1].toNat : Int) == 0) = false := by assumption
        go_round
        case rel => exact ⟨k + 1, by omega, by go_num, step_rel HE.out (fun hz => by have := HN1.out hz.2; simp [this] at hz1)⟩
        case measure => simp [intOf]; omega
      · have hz0 : ¬ h[2 * k].toNat = 0 := by assumption
        go_round
        case rel => exact ⟨k + 1, by omega, by go_num, step_rel HE.out (fun hz => hz0 (HN0.out hz.1))⟩
        case measure => simp [intOf]; omega
    · have g3 : ¬ ((2 : Int) * k + 1 < h.size) := by omega
      go_wp2
      go_ret
      refine ⟨?_, rfl⟩
      rw [noEmpty_true h.data.toList (fun j hj => HE.out j (by simp at hj; omega))]; rfl
end Go.Proofs.Qxb6617645a
