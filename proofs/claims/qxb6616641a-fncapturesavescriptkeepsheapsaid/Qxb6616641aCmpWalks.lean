import Derived.Test.Qxb6616641aBook
import Derived.Test.Qxb6616641aCmp
import Derived.WalkKit
import Derived.WalkSpells
import Derived.Outline
import Derived.RowKit3
import Derived.Laws.Rows
import Derived.Laws.Tables
import Derived.Laws.CopyOwn
import Derived.LoopN
import Derived.Deep.QuietTactic
import Derived.BigQuiet
import Derived.Deep.RegionHeld3
import Derived.Deep.DrawnRows
namespace Go.Proofs.Qxb6616641a
open Go.RowKit
set_option linter.unusedVariables false

def U8s (xs : List Int) : Array Value := (xs.map (Value.int .u8)).toArray

theorem bel_drewN {B : Nat} {a w : World} (h : Below B a w) (n : Nat) : Below B a (w.drewN n) := ⟨h.os, h.tape, h.output, h.size, h.block⟩
theorem bel_two (w : World) (a b : Obj) : Below w.heap.size w ((w.alloc a).alloc b) :=
  ((Below.refl _ _).alloc (Nat.le_refl _) _).alloc (by simp) _
theorem bel_three (w : World) (a b c : Obj) : Below w.heap.size w (((w.alloc a).alloc b).alloc c) :=
  (bel_two w a b).alloc (by simp; omega) _

theorem u8s_cell (xs : List Int) (k : Nat) (h : k < xs.length) : (U8s xs)[k]? = some (.int .u8 (xs[k]?.getD 0)) := by
  simp [U8s, h]

set_option maxRecDepth 100000 in
set_option maxHeartbeats 1000000 in
theorem cmpBytes_any (xs ys : List Int) (hx : xs.length = 17) (hy : ys.length = 17) (w : World) :
    Calls Try.prog 30 #[.agg (U8s xs), .agg (U8s ys)] w fun e w' => e = .returned (.int .i64 (lexL xs ys)) ∧ Below w.heap.size w w' := by
  have HX : Hid (xs.length = 17) := hx
  have HY : Hid (ys.length = 17) := hy
  clear hx hy
  go_enter Try.func30, Try.ntmps30
  go_wp2
  go_loopw [5] (fun i wr => ∃ k : Nat, k ≤ 17 ∧ i = .int .i64 k ∧ (∀ j, j < k → xs[j]?.getD 0 = ys[j]?.getD 0) ∧ ∃ n, wr = ((w.alloc (.cells (U8s xs) 64)).alloc (.cells (U8s ys) 64)).drewN n) (fun i _ => 17 - (intOf i).toNat)
  case atStart => exact ⟨0, Nat.zero_le _, rfl, fun j hj => by omega, 0, rfl⟩
  case round =>
    obtain ⟨k, hk, rfl, he, n, rfl⟩ := hrel
    have HE : Hid (∀ j, j < k → xs[j]?.getD 0 = ys[j]?.getD 0) := he
    clear he
    by_cases hlt : k < 17
    · have hlt' : (k : Int) < 17 := by omega
      have h0 : (0 : Int) ≤ k := by omega
      have cx : ∀ n, (((w.alloc (.cells (U8s xs) 64)).alloc (.cells (U8s ys) 64)).drewN n).cell? ⟨w.heap.size, k, none⟩ = some (.int .u8 (xs[k]?.getD 0)) := by
        intro n; rw [← u8s_cell xs k (by rw [HX.out]; exact hlt)]; simp
      have cy : ∀ n, (((w.alloc (.cells (U8s xs) 64)).alloc (.cells (U8s ys) 64)).drewN n).cell? ⟨w.heap.size + 1, k, none⟩ = some (.int .u8 (ys[k]?.getD 0)) := by
        intro n; rw [← u8s_cell ys k (by rw [HY.out]; exact hlt)]; simp
      by_cases hl : xs[k]?.getD 0 < ys[k]?.getD 0
      · go_wp2
        go_quiet (fail)
        go_wp2
        go_ret
        exact ⟨by rw [lexL_lt k xs ys HE.out (by rw [HX.out]; omega) (by rw [HY.out]; omega) hl]; rfl, by repeat (first | exact bel_two _ _ _ | apply bel_drewN)⟩
      · have hd : decide (xs[k]?.getD 0 < ys[k]?.getD 0) = false := by simpa using hl
        by_cases hg : ys[k]?.getD 0 < xs[k]?.getD 0
        · go_wp2
          go_quiet (fail)
          go_wp2
          go_quiet (fail)
          go_wp2
          go_ret
          exact ⟨by rw [lexL_gt k xs ys HE.out (by rw [HX.out]; omega) (by rw [HY.out]; omega) hg]; rfl, by repeat (first | exact bel_two _ _ _ | apply bel_drewN)⟩
        · have hd' : decide (ys[k]?.getD 0 < xs[k]?.getD 0) = false := by simpa using hg
          have HQ : Hid (xs[k]?.getD 0 = ys[k]?.getD 0) := by show xs[k]?.getD 0 = ys[k]?.getD 0; omega
          go_wp2
          go_quiet (fail)
          go_wp2
          go_quiet (fail)
          go_wp2
          go_roundw
          case rel => exact ⟨k + 1, by omega, by go_num, fun j hj => by
            by_cases hjk : j < k
            · exact HE.out j hjk
            · obtain rfl : j = k := by omega
              exact HQ.out, _, rfl⟩
          case measure => simp [intOf]; omega
    · go_wp2
      go_ret
      exact ⟨by rw [lexL_eq xs ys (fun j hj => HE.out j (by have := HX.out; omega)) (HX.out.trans HY.out.symm)]; rfl, by repeat (first | exact bel_two _ _ _ | apply bel_drewN)⟩
/-- The block after k rounds. -/
def encSt (s K T : Int) : Nat → Array Value
  | 0 => #[.int .u8 s, .int .u8 0, .int .u8 0, .int .u8 0, .int .u8 0, .int .u8 0, .int .u8 0, .int .u8 0, .int .u8 0, .int .u8 0, .int .u8 0, .int .u8 0, .int .u8 0, .int .u8 0, .int .u8 0, .int .u8 0, .int .u8 0]
  | k + 1 => ((encSt s K T k).setIfInBounds (1 + k) (.int .u8 (K / 2 ^ (56 - 8 * k) % 256))).setIfInBounds (9 + k) (.int .u8 (T / 2 ^ (56 - 8 * k) % 256))

theorem encSt_zero : encSt 0 0 0 0 = #[.int .u8 0, .int .u8 0, .int .u8 0, .int .u8 0, .int .u8 0, .int .u8 0, .int .u8 0, .int .u8 0, .int .u8 0, .int .u8 0, .int .u8 0, .int .u8 0, .int .u8 0, .int .u8 0, .int .u8 0, .int .u8 0, .int .u8 0] := rfl
theorem encSt_size (s K T : Int) (k : Nat) : (encSt s K T k).size = 17 := by
  induction k with
  | zero => rfl
  | succ k ih => simp [encSt, ih]
theorem encSt_at (s K T : Int) (k i : Nat) (h : i < 17) : ∃ v, (encSt s K T k)[i]? = some v :=
  ⟨_, Array.getElem?_eq_getElem (by rw [encSt_size]; exact h)⟩
theorem encSt_lit (s K T : Int) : encSt s K T 8 = #[.int .u8 s, .int .u8 (K / 72057594037927936 % 256), .int .u8 (K / 281474976710656 % 256), .int .u8 (K / 1099511627776 % 256), .int .u8 (K / 4294967296 % 256), .int .u8 (K / 16777216 % 256), .int .u8 (K / 65536 % 256), .int .u8 (K / 256 % 256), .int .u8 (K % 256),
    .int .u8 (T / 72057594037927936 % 256), .int .u8 (T / 281474976710656 % 256), .int .u8 (T / 1099511627776 % 256), .int .u8 (T / 4294967296 % 256), .int .u8 (T / 16777216 % 256), .int .u8 (T / 65536 % 256), .int .u8 (T / 256 % 256), .int .u8 (T % 256)] := by
  simp [encSt]

theorem info64 : (Try.prog.info? 64).map (·.size) = some 17 := by kernel_rfl
theorem enc_one (s K T : Int) : (encSt s K T 8).all (·.oneCell') = true := by rw [encSt_lit]; simp [Value.oneCell']
theorem encSt_u8 (s K T : Int) : encSt s K T 8 = U8s (encL s K T) := by rw [encSt_lit]; rfl

set_option maxRecDepth 100000 in
set_option maxHeartbeats 1000000 in
theorem encPos_any (s k t : Int) (w : World) :
    Calls Try.prog 31 #[.int .u8 s, .int .i64 k, .int .i64 t] w fun e w' => e = .returned (.agg (U8s (encL s (flipS k) (flipS t)))) ∧ Below w.heap.size w w' := by
  go_enter Try.func31, Try.ntmps31
  go_wp2
  rw [show (bits BinOp.xor IntKind.u64 (IntKind.u64.wrap k) 9223372036854775808) = flipS k from rfl, show (bits BinOp.xor IntKind.u64 (IntKind.u64.wrap t) 9223372036854775808) = flipS t from rfl]
  generalize hK : flipS k = K
  generalize hT : flipS t = T
  have HK : Hid (flipS k = K) := hK
  have HT : Hid (flipS t = T) := hT
  clear hK hT
  go_loopw [10] (fun i wr => ∃ k : Nat, k ≤ 8 ∧ i = .int .i64 k ∧ wr = (w.alloc (.cells (encSt 0 0 0 0) 64)).alloc (.cells (encSt s K T k) 64)) (fun i _ => 8 - (intOf i).toNat)
  case atStart => exact ⟨0, Nat.zero_le _, rfl, rfl⟩
  case round =>
    obtain ⟨k, hk, rfl, rfl⟩ := hrel
    by_cases hlt : k < 8
    · obtain ⟨v1, c1⟩ := encSt_at s K T k (1 + k) (by omega)
      obtain ⟨v9, c9⟩ := encSt_at s K T k (9 + k) (by omega)
      go_wp2
      go_roundw
      case rel => exact ⟨k + 1, by omega, by go_num, rfl⟩
      case measure => simp [intOf]; omega
    · obtain rfl : k = 8 := by omega
      have hE := encSt_u8 s K T
      have h1 := enc_one s K T
      have hz := encSt_size s K T 8
      have hz0 := encSt_size 0 0 0 0
      generalize encSt s K T 8 = E at hE h1 hz
      generalize encSt 0 0 0 0 = Z at hz0
      have HE : Hid (E = U8s (encL s K T)) := hE
      have H1 : Hid (E.all (·.oneCell') = true) := h1
      have HZ : Hid ((Try.prog.info? 64).map (·.size) = some E.size) := by show (Try.prog.info? 64).map (·.size) = some E.size; rw [hz]; exact info64
      have HO : Hid (Z.size = E.size) := hz0.trans hz.symm
      clear hE h1 hz hz0
      go_wp2_with (first
        | (refine wpList_load_row rfl 64 _ rfl (w.heap.size + 1) rfl 64 E (0, 0) _ (heap_alloc2_new _ _ _) Try.underlying64 rfl HZ.out ?_)
        | (refine wpList_store_row rfl 64 _ _ rfl w.heap.size E rfl rfl 64 Z (heap_alloc2_old _ _ _) HZ.out HO.out H1.out ?_))
      have hg : (((w.alloc (.cells Z 64)).alloc (.cells E 64)).setRow w.heap.size E).heap[w.heap.size]? = some (.cells E 64 (0, 0)) := setRow_heap _ _ _ _ _ _ (heap_alloc2_old _ _ _)
      have hb : Below w.heap.size w (((w.alloc (.cells Z 64)).alloc (.cells E 64)).setRow w.heap.size E) := (bel_two _ _ _).trans (below_setRow (Below.refl _ _) (Nat.le_refl _) _)
      generalize ((w.alloc (.cells Z 64)).alloc (.cells E 64)).setRow w.heap.size E = W1 at hg hb
      refine bodyPost_ret (v := .agg E) (results_cell_row Try.results31 _ _ w.heap.size 64 E (0, 0) _ (by rfl) hg Try.underlying64 rfl HZ.out) rfl ⟨?_, hb⟩
      rw [HK.out, HT.out, HE.out]

set_option maxHeartbeats 1000000 in
theorem cmpPosModel_any (s k t s' k' t' : Int) (hk : I64 k) (ht : I64 t) (hk' : I64 k') (ht' : I64 t') (w : World) :
    Calls Try.prog 11 #[.int .u8 s, .int .i64 k, .int .i64 t, .int .u8 s', .int .i64 k', .int .i64 t'] w fun e w' => e = .returned (.int .i64 (cmpPos s k t s' k' t')) ∧ Below w.heap.size w w' := by
  rw [← lex_enc s k t s' k' t' hk ht hk' ht']
  clear hk ht hk' ht'
  go_enter Try.func11, Try.ntmps11
  go_wp2_with fail
  refine (encPos_any s k t _).mono ?_
  rintro e w1 ⟨rfl, h1⟩
  go_wp2_with fail
  refine (encPos_any s' k' t' _).mono ?_
  rintro e w2 ⟨rfl, h2⟩
  go_wp2_with fail
  refine (cmpBytes_any _ _ rfl rfl _).mono ?_
  rintro e w3 ⟨rfl, h3⟩
  go_wp2_with fail
  go_ret
  exact ⟨rfl, (h1.trans (h2.mono h1.size)).trans (h3.mono (Nat.le_trans h1.size h2.size))⟩

theorem compareSide_any (a b : Int) (w : World) : Calls Try.prog 38 #[.int .u8 a, .int .u8 b] w fun e w' => e = .returned (.int .i64 (cmpI a b)) ∧ w' = w := by
  rcases cmpI_cases a b with ⟨h, hc⟩ | ⟨h, h', hc⟩ | ⟨h, h', hc⟩
  all_goals
    rw [hc]; clear hc
    go_enter Try.func38, Try.ntmps38
    go_wp2
    go_ret
    exact ⟨rfl, rfl⟩
theorem compareInt_any (a b : Int) (w : World) : Calls Try.prog 39 #[.int .i64 a, .int .i64 b] w fun e w' => e = .returned (.int .i64 (cmpI a b)) ∧ w' = w := by
  rcases cmpI_cases a b with ⟨h, hc⟩ | ⟨h, h', hc⟩ | ⟨h, h', hc⟩
  all_goals
    rw [hc]; clear hc
    go_enter Try.func39, Try.ntmps39
    go_wp2
    go_ret
    exact ⟨rfl, rfl⟩

set_option maxHeartbeats 1000000 in
theorem or_any (b o : Nat) (x y z : Int) (w : World) (h0 : w.cell? ⟨b, o, none⟩ = some (.int .i64 x)) (h1 : w.cell? ⟨b, o + 1, none⟩ = some (.int .i64 y)) (h2 : w.cell? ⟨b, o + 2, none⟩ = some (.int .i64 z)) :
    Calls Try.prog 37 #[.slice (some ⟨b, o, none⟩) 3 3] w fun e w' => e = .returned (.int .i64 (or3 x y z)) ∧ w' = w := by
  by_cases hx : x = 0
  · have gx : (x != 0) = false := by simp [hx]
    by_cases hy : y = 0
    · have gy : (y != 0) = false := by simp [hy]
      by_cases hz : z = 0
      · have gz : (z != 0) = false := by simp [hz]
        have e : or3 x y z = 0 := by simp [or3, hx, hy, hz]
        rw [e]; clear e hx hy hz
        go_enter Try.func37, Try.ntmps37
        go_wp2
        refine wp_loop_rounds 4 ?_
        iterate 4 (rw [rounds_succ]; go_wp2)
        go_ret
        exact ⟨rfl, rfl⟩
      · have gz : (z != 0) = true := by simp [hz]
        have e : or3 x y z = z := by simp [or3, hx, hy]
        rw [e]; clear e hx hy hz
        go_enter Try.func37, Try.ntmps37
        go_wp2
        refine wp_loop_rounds 3 ?_
        iterate 3 (rw [rounds_succ]; go_wp2)
        go_ret
        exact ⟨rfl, rfl⟩
    · have gy : (y != 0) = true := by simp [hy]
      have e : or3 x y z = y := by simp [or3, hx, hy]
      rw [e]; clear e hx hy
      go_enter Try.func37, Try.ntmps37
      go_wp2
      refine wp_loop_rounds 2 ?_
      iterate 2 (rw [rounds_succ]; go_wp2)
      go_ret
      exact ⟨rfl, rfl⟩
  · have gx : (x != 0) = true := by simp [hx]
    have e : or3 x y z = x := by simp [or3, hx]
    rw [e]; clear e hx
    go_enter Try.func37, Try.ntmps37
    go_wp2
    refine wp_loop_rounds 1 ?_
    iterate 1 (rw [rounds_succ]; go_wp2)
    go_ret
    exact ⟨rfl, rfl⟩

set_option maxRecDepth 100000 in
set_option maxHeartbeats 1000000 in
theorem compare_any (s k t s' k' t' : Int) (w : World) :
    Calls Try.prog 29 #[.agg #[.int .u8 s, .int .i64 k, .int .i64 t], .agg #[.int .u8 s', .int .i64 k', .int .i64 t']] w fun e w' => e = .returned (.int .i64 (cmpPos s k t s' k' t')) ∧ Below w.heap.size w w' := by
  rw [← or3_cmp]
  go_enter Try.func29, Try.ntmps29
  go_wp2
  go_region_held3 (fun x => x.cell? ⟨w.heap.size, 0, none⟩ = some (.int .u8 s) ∧ x.cell? ⟨w.heap.size, 1, none⟩ = some (.int .i64 k) ∧ x.cell? ⟨w.heap.size, 2, none⟩ = some (.int .i64 t) ∧ x.cell? ⟨w.heap.size + 1, 0, none⟩ = some (.int .u8 s') ∧ x.cell? ⟨w.heap.size + 1, 1, none⟩ = some (.int .i64 k') ∧ x.cell? ⟨w.heap.size + 1, 2, none⟩ = some (.int .i64 t')) (simp [go_sem, World.cell?_alloc_past])
    (first
      | (go_at_call 38; refine (compareSide_any _ _ _).mono ?_; rintro e w' ⟨rfl, rfl⟩)
      | (go_at_call 39; refine (compareInt_any _ _ _).mono ?_; rintro e w' ⟨rfl, rfl⟩)
      | (go_at_call 37; refine (or_any _ 0 (cmpI s s') (cmpI k k') (cmpI t t') _ ?_ ?_ ?_).mono ?_; (simp [go_sem]); (simp [go_sem]); (simp [go_sem]); rintro e w' ⟨rfl, rfl⟩))
  go_wp2
  go_ret
  exact ⟨rfl, (bel_three _ _ _ _).drew⟩
end Go.Proofs.Qxb6616641a
