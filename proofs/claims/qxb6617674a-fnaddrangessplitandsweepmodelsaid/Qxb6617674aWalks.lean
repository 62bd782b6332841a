import Derived.Test.Qxb6617674aRows
import Derived.Test.Qxb6617674aPlain
import Derived.WalkKit
import Derived.WalkSpells
import Derived.Outline
import Derived.RowKit3
import Derived.Deep.QuietTactic
import Derived.BigQuiet
import Derived.Deep.RegionHeld3
import Derived.Deep.DrawnRows
import Derived.Laws.CopyOwn
namespace Go.Proofs.Qxb6617674a
open Go.RowKit
set_option linter.unusedVariables false

theorem setRow_same (w : World) (g : Nat) (cs : Array Value) (t : TypeId) (hg : w.heap[g]? = some (.cells cs t (0, 0))) : w.setRow g cs = w := by
  have e : (w.setRow g cs).heap = w.heap := by
    apply Array.ext_getElem?
    intro i
    by_cases hi : i = g
    · subst hi
      rw [setRow_heap w i cs cs t (0, 0) hg, hg]
    · rw [setRow_other w g i cs hi]
  unfold World.setRow at e ⊢
  simp only at e
  rw [e]

theorem setRow_cell (w : World) (g k : Nat) (A B : Array Value) (t : TypeId) (v : Value) (hg : w.heap[g]? = some (.cells B t (0, 0))) : (w.setRow g A).setCell ⟨g, k, none⟩ v = w.setRow g (A.setIfInBounds k v) := by
  rw [setCell_eq_setRow _ g k A t (0, 0) v (setRow_heap w g B A t (0, 0) hg), setRow_setRow]

set_option maxHeartbeats 1000000 in
theorem addRange_any (g : Nat) (f : Nat → Bool) (lo hi : Nat) (h1 : lo < 256) (h2 : hi < 256) (w : World) (hg : w.heap[g]? = some (.cells (bs f) 22 (0, 0))) :
    Calls Try.prog 8 #[.pointer (some ⟨g, 0, none⟩), .int .u8 lo, .int .u8 hi] w fun e w' => e = .returned (.tuple #[]) ∧ w' = w.setRow g (bs (fun j => f j || (decide (lo ≤ j) && decide (j ≤ hi)))) := by
  have HG : Hid (w.heap[g]? = some (.cells (bs f) 22 (0, 0))) := hg
  clear hg
  go_enter Try.func8, Try.ntmps8
  go_wp2
  go_loopw [6] (fun i wr => ∃ k : Nat, i = .int .i64 k ∧ lo ≤ k ∧ (k ≤ lo ∨ k ≤ hi + 1) ∧ ∃ A, wr = w.setRow g A ∧ A = bs (fun j => f j || (decide (lo ≤ j) && decide (j < k)))) (fun i _ => hi + 1 - (intOf i).toNat)
  case atStart =>
    refine ⟨lo, rfl, Nat.le_refl _, Or.inl (Nat.le_refl _), bs f, (setRow_same w g _ 22 HG.out).symm, bs_congr (fun i _ => ?_)⟩
    have : (decide (lo ≤ i) && decide (i < lo)) = false := by rw [Bool.eq_false_iff]; simp
    rw [this, Bool.or_false]
  case round =>
    obtain ⟨k, rfl, hk1, hk2, A, rfl, hA⟩ := hrel
    have HA := hA
    have HAH : Hid (A = bs (fun j => f j || (decide (lo ≤ j) && decide (j < k)))) := hA
    clear hA HA
    by_cases hlt : k ≤ hi
    · have hgA := setRow_heap w g _ A 22 (0, 0) HG.out
      obtain ⟨v, hv⟩ : ∃ v, A[k]? = some v := ⟨_, by rw [HAH.out]; exact bs_get _ k (by omega)⟩
      have hc : (w.setRow g A).cell? ⟨g, k, none⟩ = some v := by rw [cell_of_row _ g k A 22 (0, 0) hgA]; exact hv
      have hf : (w.setRow g A).frozen? ⟨g, k, none⟩ = false := frozen_of_row _ g k A 22 hgA
      clear hgA hv
      go_wp2
      go_roundw
      case rel =>
        refine ⟨k + 1, by go_num, by omega, by omega, A.setIfInBounds k (.bool true), setRow_cell w g k A _ 22 _ HG.out, ?_⟩
        rw [HAH.out, bs_set]
        refine bs_congr (fun j _ => ?_)
        by_cases hjk : j = k
        · subst hjk; simp [hk1]
        · have : decide (j < k + 1) = decide (j < k) := by rw [decide_eq_decide]; omega
          simp [hjk, this]
      case measure => simp [intOf]; omega
    · go_wp2
      go_end0
      refine ⟨rfl, ?_⟩
      rw [HAH.out]
      congr 1
      refine bs_congr (fun j _ => ?_)
      congr 1
      rw [Bool.eq_iff_iff]
      simp
      omega

theorem hidP {p : Prop} (h : p) : Hid p := h

theorem byte_at (h : ByteArray) (i : Nat) (hi : i < h.size) : h[i].toNat = at8 h.data.toList i := by
  have : i < h.data.toList.length := by simpa using hi
  unfold at8
  rw [List.getElem?_eq_getElem this]
  rfl

theorem setRow_drewN (w : World) (g n : Nat) (A : Array Value) : (w.drewN n).setRow g A = (w.setRow g A).drewN n := rfl

set_option maxHeartbeats 1000000 in
theorem addRanges_any (g : Nat) (f : Nat → Bool) (p : ByteArray) (w : World) (hs : p.size ≤ 1048576) (hg : w.heap[g]? = some (.cells (bs f) 22 (0, 0))) :
    Calls Try.prog 7 #[.pointer (some ⟨g, 0, none⟩), .string p] w fun e w' => e = .returned (.tuple #[]) ∧ ∃ n, w' = (w.setRow g (bs (fun j => f j || covr p.data.toList j))).drewN n := by
  have HG : Hid (w.heap[g]? = some (.cells (bs f) 22 (0, 0))) := hg
  clear hg
  go_enter Try.func7, Try.ntmps7
  go_wp2
  go_loopw [4] (fun i wr => ∃ (m : Nat) (n : Nat) (A : Array Value), i = .int .i64 (2 * (m : Int)) ∧ 2 * m ≤ p.size + 1 ∧ wr = (w.setRow g A).drewN n ∧ A = bs (fun j => f j || covr (p.data.toList.take (2 * m)) j)) (fun i _ => p.size + 1 - (intOf i).toNat)
  case atStart =>
    refine ⟨0, 0, bs f, rfl, by omega, (setRow_same w g _ 22 HG.out).symm, bs_congr (fun i _ => ?_)⟩
    simp [covr]
  case round =>
    obtain ⟨m, n, A, rfl, hm, rfl, hA⟩ := hrel
    have HAH : Hid (A = bs (fun j => f j || covr (p.data.toList.take (2 * m)) j)) := hA
    clear hA
    by_cases hlt : 2 * m + 1 < p.size
    · have g0 : (0 : Int) ≤ 2 * m := by omega
      have g1 : (2 : Int) * m < p.size := by omega
      have g2 : (0 : Int) ≤ 2 * m + 1 := by omega
      have g3 : (2 : Int) * m + 1 < p.size := by omega
      have l0 := p[2 * m].toNat_lt
      have l1 := p[2 * m + 1].toNat_lt
      have HC : Hid (∀ n, Calls Try.prog 8 #[.pointer (some ⟨g, 0, none⟩), .int .u8 (p[2 * m].toNat : Int), .int .u8 (p[2 * m + 1].toNat : Int)] ((w.setRow g A).drewN n) fun e w' => e = .returned (.tuple #[]) ∧ w' = ((w.setRow g (bs (fun j => f j || covr (p.data.toList.take (2 * (m + 1))) j))).drewN n)) := by
        intro n
        have hgA : ((w.setRow g A).drewN n).heap[g]? = some (.cells (bs (fun j => f j || covr (p.data.toList.take (2 * m)) j)) 22 (0, 0)) := by
          rw [HAH.out]; exact setRow_heap w g _ _ 22 (0, 0) HG.out
        have := addRange_any g _ p[2 * m].toNat p[2 * m + 1].toNat l0 l1 _ hgA
        refine this.mono ?_
        rintro e w' ⟨rfl, rfl⟩
        refine ⟨rfl, ?_⟩
        rw [setRow_drewN, setRow_setRow]
        congr 2
        refine bs_congr (fun j _ => ?_)
        rw [covr_step _ _ _ (by simpa using hlt), byte_at p (2 * m) (by omega), byte_at p (2 * m + 1) hlt, Bool.or_assoc]
      clear l0 l1
      have e2 : IntKind.i64.wrap (2 * (m : Int) + 1) = 2 * m + 1 := by simp [IntKind.wrap, IntKind.signed, IntKind.bits]; omega
      go_wp2
      go_region_held3 (fun _ => True) (trivial)
        ((go_at_call 8; refine (HC.out _).mono ?_; rintro e w' ⟨rfl, rfl⟩))
      all_goals
        go_wp2
        go_roundw
        case rel => exact ⟨m + 1, _, _, by go_num, by omega, rfl, rfl⟩
        case measure => simp [intOf]; omega
    · have g3 : ¬ ((2 : Int) * m + 1 < p.size) := by omega
      go_wp2
      go_end0
      refine ⟨rfl, n, ?_⟩
      rw [HAH.out]
      congr 2
      refine bs_congr (fun j _ => ?_)
      rw [covr_end _ _ _ (by simp; omega)]

theorem zzAddRanges_any (g : Nat) (f : Nat → Bool) (p : ByteArray) (w : World) (hs : p.size ≤ 1048576) (hg : w.heap[g]? = some (.cells (bs f) 22 (0, 0))) :
    Calls Try.prog 5 #[.pointer (some ⟨g, 0, none⟩), .string p] w fun e w' => e = .returned (.tuple #[]) ∧ ∃ n, w' = (w.setRow g (bs (fun j => f j || covr p.data.toList j))).drewN n := by
  have HC : Hid (Calls Try.prog 7 #[.pointer (some ⟨g, 0, none⟩), .string p] w fun e w' => e = .returned (.tuple #[]) ∧ ∃ n, w' = (w.setRow g (bs (fun j => f j || covr p.data.toList j))).drewN n) := addRanges_any g f p w hs hg
  clear hg
  go_enter Try.func5, Try.ntmps5
  go_wp2_with fail
  refine HC.out.mono ?_
  rintro e w' ⟨rfl, n, hw⟩
  go_wp2_with fail
  go_end0
  exact ⟨rfl, n, rfl⟩

theorem mark_step (D : Nat → Int) (a b j : Nat) (h : a ≤ b) (d1 d2 : Int) (h1 : d1 = D a) (h2 : d2 = D (b + 1)) :
    (if j = b + 1 then d2 - 1 else if j = a then d1 + 1 else D j) = D j + ((if j = a then 1 else 0) - (if j = b + 1 then 1 else 0)) := by
  by_cases q1 : j = b + 1
  · subst q1
    rw [if_pos rfl, if_neg (by omega), if_pos rfl]; omega
  · rw [if_neg q1, if_neg q1]
    by_cases q2 : j = a
    · subst q2
      rw [if_pos rfl, if_pos rfl]; omega
    · rw [if_neg q2, if_neg q2]; omega

theorem psum_bound (l : List UInt8) (k : Nat) : 0 ≤ psum (dep l) k ∧ psum (dep l) k ≤ l.length := by
  cases k with
  | zero => simp [psum]
  | succ k => rw [psum_dep]; exact cnt_nonneg l k

theorem cov_step (f c : Nat → Bool) (j k : Nat) (h : c k = true) : (if j = k then true else f j || (decide (j < k) && c j)) = (f j || (decide (j < k + 1) && c j)) := by
  by_cases q : j = k
  · subst q; simp [h]
  · have : decide (j < k + 1) = decide (j < k) := by rw [decide_eq_decide]; omega
    rw [this, if_neg q]
theorem cov_none (f c : Nat → Bool) (j k : Nat) (h : c k = false) : (f j || (decide (j < k) && c j)) = (f j || (decide (j < k + 1) && c j)) := by
  by_cases q : j = k
  · subst q; simp [h]
  · have : decide (j < k + 1) = decide (j < k) := by rw [decide_eq_decide]; omega
    rw [this]

theorem zero22 : (Try.prog.info? 22).map (fun i => (i.zero, i.size)) = some (some (.agg (bs fun _ => false)), 256) := by kernel_rfl
theorem zero29 : (Try.prog.info? 29).map (fun i => (i.zero, i.size)) = some (some (.agg (ds fun _ => 0)), 257) := by kernel_rfl

set_option maxRecDepth 100000 in
set_option maxHeartbeats 2000000 in
theorem sweep_any (f : Nat → Bool) (p : ByteArray) (w : World) (hs : p.size ≤ 1048576) :
    Calls Try.prog 6 #[.agg (bs f), .string p] w fun e w' => e = .returned (.agg (bs (fun j => f j || covr p.data.toList j))) ∧ Below w.heap.size w w' := by
  obtain ⟨z22, i22⟩ := zero_of_info zero22
  obtain ⟨z29, i29⟩ := zero_of_info zero29
  have HI22 : Hid ((Try.prog.info? 22).map (·.size) = some 256) := i22
  clear i22 i29
  go_enter Try.func6, Try.ntmps6
  go_wp2
  have hW0 : (((w.alloc (.cells (bs f) 22)).alloc (.cells (bs fun _ => false) 22)).alloc (.cells (ds fun _ => 0) 29)).heap[w.heap.size]? = some (.cells (bs f) 22 (0, 0)) := by
    rw [Below.heap_alloc _ _ _ (by simp; omega)]; exact heap_alloc2_old w _ _
  have hW1 : (((w.alloc (.cells (bs f) 22)).alloc (.cells (bs fun _ => false) 22)).alloc (.cells (ds fun _ => 0) 29)).heap[w.heap.size + 1]? = some (.cells (bs fun _ => false) 22 (0, 0)) := by
    rw [Below.heap_alloc _ _ _ (by simp)]; exact heap_alloc2_new w _ _
  have hW2 : (((w.alloc (.cells (bs f) 22)).alloc (.cells (bs fun _ => false) 22)).alloc (.cells (ds fun _ => 0) 29)).heap[w.heap.size + 1 + 1]? = some (.cells (ds fun _ => 0) 29 (0, 0)) := by
    have := heap_alloc_new ((w.alloc (.cells (bs f) 22)).alloc (.cells (bs fun _ => false) 22)) (.cells (ds fun _ => 0) 29)
    simpa using this
  have hWz : (((w.alloc (.cells (bs f) 22)).alloc (.cells (bs fun _ => false) 22)).alloc (.cells (ds fun _ => 0) 29)).heap.size = w.heap.size + 1 + 1 + 1 := by simp
  have hWb : Below w.heap.size w (((w.alloc (.cells (bs f) 22)).alloc (.cells (bs fun _ => false) 22)).alloc (.cells (ds fun _ => 0) 29)) :=
    (((Below.refl _ _).alloc (Nat.le_refl _) _).alloc (by simp) _).alloc (by simp; omega) _
  generalize (((w.alloc (.cells (bs f) 22)).alloc (.cells (bs fun _ => false) 22)).alloc (.cells (ds fun _ => 0) 29)) = W at hW0 hW1 hW2 hWz hWb
  have HW0 : Hid (W.heap[w.heap.size]? = some (.cells (bs f) 22 (0, 0))) := hW0
  have HW1 : Hid (W.heap[w.heap.size + 1]? = some (.cells (bs fun _ => false) 22 (0, 0))) := hW1
  have HW2 : Hid (W.heap[w.heap.size + 1 + 1]? = some (.cells (ds fun _ => 0) 29 (0, 0))) := hW2
  have HWz : Hid (W.heap.size = w.heap.size + 1 + 1 + 1) := hWz
  have HWb : Hid (Below w.heap.size w W) := hWb
  clear hW0 hW1 hW2 hWz hWb
  go_loopw [7] (fun i wr => ∃ (m : Nat) (A : Array Value), i = .int .i64 m ∧ m ≤ p.size / 2 ∧ wr = W.setRow (w.heap.size + 1 + 1) A ∧ A = ds (dep (p.data.toList.take (2 * m)))) (fun i _ => p.size / 2 - (intOf i).toNat)
  case atStart =>
    refine ⟨0, _, rfl, Nat.zero_le _, (setRow_same W _ _ 29 HW2.out).symm, ds_congr (fun i _ => ?_)⟩
    simp [dep]
  case round =>
    obtain ⟨m, A, rfl, hm, rfl, hA⟩ := hrel
    have HA : Hid (A = ds (dep (p.data.toList.take (2 * m)))) := hA
    clear hA
    by_cases hlt : m < p.size / 2
    · have hlt' : (m : Int) < p.size / 2 := by omega
      have g0 : (0 : Int) ≤ 2 * m := by omega
      have g1 : (2 : Int) * m < p.size := by omega
      have g2 : (0 : Int) ≤ 2 * m + 1 := by omega
      have g3 : (2 : Int) * m + 1 < p.size := by omega
      have l0 := p[2 * m].toNat_lt
      have l1 := p[2 * m + 1].toNat_lt
      have hgA := setRow_heap W (w.heap.size + 1 + 1) _ A 29 (0, 0) HW2.out
      have hcell : ∀ j, j < 257 → (W.setRow (w.heap.size + 1 + 1) A).cell? ⟨w.heap.size + 1 + 1, j, none⟩ = some (.int .i64 (dep (p.data.toList.take (2 * m)) j)) := fun j hj => by
        rw [cell_of_row _ _ j A 29 (0, 0) hgA, HA.out]; exact ds_get _ j hj
      have hf : ∀ j, (W.setRow (w.heap.size + 1 + 1) A).frozen? ⟨w.heap.size + 1 + 1, j, none⟩ = false := fun j => frozen_of_row _ _ j A 29 hgA
      have HS := hidP (fun c => dep_step p.data.toList m c (by simp; omega))
      rw [← byte_at p (2 * m) (by omega), ← byte_at p (2 * m + 1) (by omega)] at HS
      have c1 := hcell p[2 * m].toNat (by omega)
      have c2 := hcell (p[2 * m + 1].toNat + 1) (by omega)
      have b1 := dep_bound (p.data.toList.take (2 * m)) p[2 * m].toNat
      have b2 := dep_bound (p.data.toList.take (2 * m)) (p[2 * m + 1].toNat + 1)
      have hll : (p.data.toList.take (2 * m)).length ≤ 1048576 := by simp; omega
      have f1 := hf p[2 * m].toNat
      have f2 := hf (p[2 * m + 1].toNat + 1)
      clear hcell hf hgA
      generalize hD : dep (p.data.toList.take (2 * m)) = D at c1 c2 b1 b2 HA HS
      have HD := hidP hD
      clear hD
      generalize (p.data.toList.take (2 * m)).length = L at b1 b2 hll
      obtain ⟨d1, hd1⟩ : ∃ d, d = D p[2 * m].toNat := ⟨_, rfl⟩
      obtain ⟨d2, hd2⟩ : ∃ d, d = D (p[2 * m + 1].toNat + 1) := ⟨_, rfl⟩
      rw [← hd1] at c1 b1
      rw [← hd2] at c2 b2
      have H1 := hidP hd1
      have H2 := hidP hd2
      clear hd1 hd2
      go_wp2
      · have hle : p[2 * m].toNat ≤ p[2 * m + 1].toNat := by assumption
        go_roundw
        case rel =>
          refine ⟨m + 1, _, by go_num, by omega, (by rw [setRow_cell W _ _ A _ 29 _ HW2.out, setRow_cell W _ _ _ _ 29 _ HW2.out]), ?_⟩
          rw [HA.out, ds_set, ds_set]
          refine ds_congr (fun j _ => ?_)
          rw [HS.out j, if_pos hle]
          exact mark_step D _ _ j hle _ _ H1.out H2.out
        case measure => simp [intOf]; omega
      · have hle : ¬ p[2 * m].toNat ≤ p[2 * m + 1].toNat := by assumption
        go_roundw
        case rel =>
          refine ⟨m + 1, A, by go_num, by omega, rfl, ?_⟩
          rw [HA.out]
          refine ds_congr (fun j _ => ?_)
          rw [HS.out j, if_neg hle]; omega
        case measure => simp [intOf]; omega
    · have hlt' : ¬ ((m : Int) < p.size / 2) := by omega
      have hA : A = ds (dep p.data.toList) := by
        rw [HA.out, show m = p.data.toList.length / 2 by simp; omega]
        exact ds_congr (fun j _ => dep_end _ _)
      have hX0 : (W.setRow (w.heap.size + 1 + 1) A).heap[w.heap.size]? = some (.cells (bs f) 22 (0, 0)) := by
        rw [setRow_other _ _ _ _ (by omega)]; exact HW0.out
      have hX1 : (W.setRow (w.heap.size + 1 + 1) A).heap[w.heap.size + 1]? = some (.cells (bs fun _ => false) 22 (0, 0)) := by
        rw [setRow_other _ _ _ _ (by omega)]; exact HW1.out
      have hX2 : (W.setRow (w.heap.size + 1 + 1) A).heap[w.heap.size + 1 + 1]? = some (.cells (ds (dep p.data.toList)) 29 (0, 0)) := by
        rw [setRow_heap W _ _ A 29 (0, 0) HW2.out, hA]
      have hXz : (W.setRow (w.heap.size + 1 + 1) A).heap.size = w.heap.size + 1 + 1 + 1 := by simp [HWz.out]
      have hXb : Below w.heap.size w (W.setRow (w.heap.size + 1 + 1) A) := below_setRow HWb.out (by omega) _
      generalize W.setRow (w.heap.size + 1 + 1) A = X at hX0 hX1 hX2 hXz hXb
      have HX0 := hidP hX0
      have HX1 := hidP hX1
      have HX2 := hidP hX2
      have HXb := hidP hXb
      clear hX0 hX1 hX2 hXb hA HA HW0 HW1 HW2 HWz HWb
      have HXz := hidP hXz
      clear hXz
      go_wp2_with (first
        | (refine wpList_load_row rfl 22 _ rfl w.heap.size rfl 22 (bs f) (0, 0) _ HX0.out Try.underlying22 rfl (by rw [bs_size]; exact HI22.out) ?_)
        | (refine wpList_store_row rfl 22 _ _ rfl X.heap.size (bs f) rfl rfl 22 (bs fun _ => false) (heap_alloc_new X _) (by rw [bs_size]; exact HI22.out) rfl (bs_one _) ?_))
      have hY0 : ((X.alloc (.cells (bs fun _ => false) 22)).setRow X.heap.size (bs f)).heap[X.heap.size]? = some (.cells (bs f) 22 (0, 0)) := setRow_heap _ _ _ _ _ _ (heap_alloc_new X _)
      have hY1 : ((X.alloc (.cells (bs fun _ => false) 22)).setRow X.heap.size (bs f)).heap[w.heap.size + 1]? = some (.cells (bs fun _ => false) 22 (0, 0)) := by
        rw [setRow_other _ _ _ _ (by have := HXz.out; omega), Below.heap_alloc _ _ _ (by have := HXz.out; omega)]; exact HX1.out
      have hY2 : ((X.alloc (.cells (bs fun _ => false) 22)).setRow X.heap.size (bs f)).heap[w.heap.size + 1 + 1]? = some (.cells (ds (dep p.data.toList)) 29 (0, 0)) := by
        rw [setRow_other _ _ _ _ (by have := HXz.out; omega), Below.heap_alloc _ _ _ (by have := HXz.out; omega)]; exact HX2.out
      have hYb : Below w.heap.size w ((X.alloc (.cells (bs fun _ => false) 22)).setRow X.heap.size (bs f)) :=
        below_setRow (HXb.out.alloc (by have := HXz.out; omega) _) (by have := HXz.out; omega) _
      generalize (X.alloc (.cells (bs fun _ => false) 22)).setRow X.heap.size (bs f) = Y at hY0 hY1 hY2 hYb
      have HY0 := hidP hY0
      have HY1 := hidP hY1
      have HY2 := hidP hY2
      have HYb := hidP hYb
      have hgz : w.heap.size + 1 + 1 < X.heap.size := by have := HXz.out; omega
      clear hY0 hY1 hY2 hYb HX0 HX1 HX2 HXb HXz
      generalize X.heap.size = G at hgz HY0
      go_loopw [11, 12] (fun r c wr => ∃ (k : Nat) (A : Array Value), r = .int .i64 (psum (dep p.data.toList) k) ∧ c = .int .i64 k ∧ k ≤ 256 ∧ wr = Y.setRow G A ∧ A = bs (fun j => f j || (decide (j < k) && covr p.data.toList j))) (fun _ c _ => 256 - (intOf c).toNat)
      case atStart =>
        refine ⟨0, bs f, rfl, rfl, by omega, (setRow_same Y G _ 22 HY0.out).symm, bs_congr (fun i _ => ?_)⟩
        simp
      case round =>
        obtain ⟨k, A, rfl, rfl, hk, rfl, hA⟩ := hrel
        have HA := hidP hA
        clear hA
        by_cases hlt2 : k < 256
        · have hgA := setRow_heap Y G _ A 22 (0, 0) HY0.out
          have hgD : (Y.setRow G A).heap[w.heap.size + 1 + 1]? = some (.cells (ds (dep p.data.toList)) 29 (0, 0)) := by
            rw [setRow_other _ _ _ _ (by omega)]; exact HY2.out
          have cD : (Y.setRow G A).cell? ⟨w.heap.size + 1 + 1, k, none⟩ = some (.int .i64 (dep p.data.toList k)) := by
            rw [cell_of_row _ _ k _ 29 (0, 0) hgD]; exact ds_get _ k (by omega)
          obtain ⟨v, hv⟩ : ∃ v, A[k]? = some v := ⟨_, by rw [HA.out]; exact bs_get _ k hlt2⟩
          have cA : (Y.setRow G A).cell? ⟨G, k, none⟩ = some v := by rw [cell_of_row _ G k A 22 (0, 0) hgA]; exact hv
          have fA : (Y.setRow G A).frozen? ⟨G, k, none⟩ = false := frozen_of_row _ G k A 22 hgA
          have bd := dep_bound p.data.toList k
          have br := psum_bound p.data.toList k
          have hll : p.data.toList.length ≤ 1048576 := by simpa using hs
          have hc := psum_dep p.data.toList k
          have HP := hidP (cnt_pos p.data.toList k)
          have HSum : Hid (psum (dep p.data.toList) (k + 1) = psum (dep p.data.toList) k + dep p.data.toList k) := rfl
          rw [hc] at HSum
          clear hgA hgD hv
          generalize psum (dep p.data.toList) k = r at br HSum
          generalize dep p.data.toList k = d at cD bd HSum
          generalize p.data.toList.length = L at bd br hll
          have HC := hidP hc
          clear hc
          have HCV : Hid (covr p.data.toList k = decide (0 < r + d)) := by
            show covr p.data.toList k = decide (0 < r + d)
            rw [← HP.out, HSum.out]
          by_cases hp : 0 < r + d
          · go_wp2
            go_roundw
            case rel =>
              refine ⟨k + 1, _, by rw [HC.out, HSum.out], by go_num, by omega, setRow_cell Y G k A _ 22 _ HY0.out, ?_⟩
              rw [HA.out, bs_set]
              exact bs_congr (fun j _ => cov_step f _ j k (by rw [HCV.out]; simpa using hp))
            case measure => simp [intOf]; omega
          · go_wp2
            go_roundw
            case rel =>
              refine ⟨k + 1, _, by rw [HC.out, HSum.out], by go_num, by omega, rfl, ?_⟩
              rw [HA.out]
              exact bs_congr (fun j _ => cov_none f _ j k (by rw [HCV.out]; simpa using hp))
            case measure => simp [intOf]; omega
        · have hgA := setRow_heap Y G _ A 22 (0, 0) HY0.out
          have hgR : (Y.setRow G A).heap[w.heap.size + 1]? = some (.cells (bs fun _ => false) 22 (0, 0)) := by
            rw [setRow_other _ _ _ _ (by omega)]; exact HY1.out
          have hgB : Below w.heap.size w (Y.setRow G A) := below_setRow HYb.out (by omega) _
          generalize Y.setRow G A = Z at hgA hgR hgB
          have HZA := hidP hgA
          have HZR := hidP hgR
          have HZB := hidP hgB
          have HAL : Hid (A = bs (fun j => f j || covr p.data.toList j)) := by
            show A = _
            rw [HA.out]
            refine bs_congr (fun j hj => ?_)
            have : decide (j < k) = true := by simp; omega
            rw [this, Bool.true_and]
          have hsz : A.size = 256 := by rw [HAL.out]; exact bs_size _
          have HSZ := hidP hsz
          have hone : A.all (·.oneCell') = true := by rw [HAL.out]; exact bs_one _
          have HONE := hidP hone
          clear hgA hgR hgB hsz hone HA HY0 HY1 HY2 HYb
          go_wp2_with (first
            | (refine wpList_load_row rfl 22 _ rfl G rfl 22 A (0, 0) _ HZA.out Try.underlying22 rfl (by rw [HSZ.out]; exact HI22.out) ?_)
            | (refine wpList_store_row rfl 22 _ _ rfl (w.heap.size + 1) A rfl rfl 22 (bs fun _ => false) HZR.out (by rw [HSZ.out]; exact HI22.out) (by rw [HSZ.out]; exact bs_size _) HONE.out ?_))
          refine bodyPost_ret (v := .agg A) (results_cell_row Try.results6 _ _ (w.heap.size + 1) 22 A (0, 0) _ (by rfl) (setRow_heap _ _ _ _ _ _ HZR.out) Try.underlying22 rfl (by rw [HSZ.out]; exact HI22.out)) rfl ⟨?_, below_setRow HZB.out (by omega) _⟩
          rw [HAL.out]
end Go.Proofs.Qxb6617674a
