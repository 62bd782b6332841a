import Derived.Test.Qxb6617674aWalks
import Derived.ChangeKeysEq
import Derived.Laws.StructEq
namespace Go.Proofs.Qxb6617674a
open Go.RowKit
set_option linter.unusedVariables false

theorem bytes4_yes (f : Nat → Bool) (a b : ByteArray) (w : World) (h : a.size + b.size ≤ 1048576) :
    Calls Try.prog 4 #[.agg (bs f), .string a, .string b] w fun e w' => e = .returned (.bool true) ∧ w' = w.alloc (.cells (bs f) 22) := by
  have h1 : (a.size : Int) ≤ 1048576 := by omega
  have h2 : (b.size : Int) ≤ 1048576 := by omega
  have h3 : (a.size : Int) + b.size ≤ 1048576 := by omega
  go_enter Try.func4, Try.ntmps4
  go_wp2
  go_ret
  exact ⟨rfl, rfl⟩
theorem bytes4_no (f : Nat → Bool) (a b : ByteArray) (w : World) (h : ¬ a.size + b.size ≤ 1048576) :
    Calls Try.prog 4 #[.agg (bs f), .string a, .string b] w fun e w' => e = .returned (.bool false) ∧ w' = w.alloc (.cells (bs f) 22) := by
  by_cases h1 : a.size ≤ 1048576
  · by_cases h2 : b.size ≤ 1048576
    · have g3 : ¬ ((a.size : Int) + b.size ≤ 1048576) := by omega
      go_enter Try.func4, Try.ntmps4
      go_wp2
      go_ret
      exact ⟨rfl, rfl⟩
    · go_enter Try.func4, Try.ntmps4
      go_wp2
      go_ret
      exact ⟨rfl, rfl⟩
  · go_enter Try.func4, Try.ntmps4
    go_wp2
    go_ret
    exact ⟨rfl, rfl⟩

theorem info4 : (Try.prog.info? 4).isSome = true := by kernel_rfl
theorem cells4 : Try.prog.cellsOf 4 = 1 := by kernel_rfl
theorem info22 : (Try.prog.info? 22).map (·.size) = some 256 := by kernel_rfl

theorem eqItems_same (f : Nat → Bool) (w : World) : ∀ is : List Nat, (∀ i ∈ is, i < 256) → (Op.eqItems 9999 4 1 (bs f) (bs f) is).run Try.prog w = .ok true w
  | [], _ => by simp [Op.eqItems]
  | i :: is, h => by
    have hi : i < 256 := h i (by simp)
    have hp : (part 4 (bs f) (i * 1)).run Try.prog w = .ok (.bool (f i)) w := by
      simp [part, isAgg, run_underlying Try.underlying4, bs_get f i hi]
    have he : (Op.equalIn 9999 4 (.bool (f i)) (.bool (f i))).run Try.prog w = .ok true w := by
      rw [run_equalIn_bool' w 9998 4 _ _ Try.underlying4]; simp
    have ih := eqItems_same f w is (fun j hj => h j (by simp [hj]))
    rw [Nat.mul_one] at hp
    simp [Op.eqItems, hp, he, ih]

theorem eq22 (f : Nat → Bool) (w : World) : (Op.equalIn 10000 22 (.agg (bs f)) (.agg (bs f))).run Try.prog w = .ok true w := by
  obtain ⟨i, hi⟩ := Option.isSome_iff_exists.1 info4
  rw [run_equalIn_array w 9999 _ _ Try.underlying22 hi, cells4]
  exact eqItems_same f w _ (fun i hi => by simpa using hi)

set_option maxRecDepth 100000 in
theorem ranges_long (f : Nat → Bool) (a b : ByteArray) (w : World) (h : ¬ a.size + b.size ≤ 1048576) :
    Calls Try.prog 3 #[.agg (bs f), .string a, .string b] w fun e w' => e = .returned (.bool true) ∧ Below w.heap.size w w' := by
  go_enter Try.func3, Try.ntmps3
  go_wp2_with (first
    | (refine wpList_load_row rfl 22 _ rfl w.heap.size rfl 22 (bs f) (0, 0) _ (heap_alloc_new w _) Try.underlying22 rfl (by rw [bs_size]; exact info22) ?_)
    | (go_at_call 4; refine (bytes4_no f a b _ h).mono ?_; rintro e w' ⟨rfl, rfl⟩))
  go_ret
  exact ⟨rfl, ((Below.refl _ _).alloc (Nat.le_refl _) _).alloc (by simp) _⟩
set_option maxRecDepth 100000 in
theorem ranges_a (f : Nat → Bool) (a b : ByteArray) (w : World) (h : a.size + b.size ≤ 1048576) (h2 : 65536 < a.size ∨ (a.size ≤ 65536 ∧ 65536 < b.size)) :
    Calls Try.prog 3 #[.agg (bs f), .string a, .string b] w fun e w' => e = .returned (.bool true) ∧ Below w.heap.size w w' := by
  rcases h2 with h2 | ⟨h1, h2⟩
  all_goals
    go_enter Try.func3, Try.ntmps3
    go_wp2_with (first
      | (refine wpList_load_row rfl 22 _ rfl w.heap.size rfl 22 (bs f) (0, 0) _ (heap_alloc_new w _) Try.underlying22 rfl (by rw [bs_size]; exact info22) ?_)
      | (go_at_call 4; refine (bytes4_yes f a b _ h).mono ?_; rintro e w' ⟨rfl, rfl⟩))
    go_ret
    exact ⟨rfl, ((Below.refl _ _).alloc (Nat.le_refl _) _).alloc (by simp) _⟩

/-- A new variable of the set's type, filled with C. -/
def newRow (x : World) (C : Array Value) : World := (x.alloc (.cells (bs fun _ => false) 22)).setRow x.heap.size C
theorem newRow_at (x : World) (C : Array Value) : (newRow x C).heap[x.heap.size]? = some (.cells C 22 (0, 0)) := setRow_heap _ _ _ _ _ _ (heap_alloc_new x _)
theorem newRow_old (x : World) (C : Array Value) (k : Nat) (h : k < x.heap.size) : (newRow x C).heap[k]? = x.heap[k]? := by
  unfold newRow
  rw [setRow_other _ _ _ _ (by omega), Below.heap_alloc _ _ _ h]
theorem newRow_size (x : World) (C : Array Value) : (newRow x C).heap.size = x.heap.size + 1 := by simp [newRow]
theorem newRow_bel {B : Nat} {w x : World} (h : Below B w x) (hB : B ≤ x.heap.size) (C : Array Value) : Below B w (newRow x C) := below_setRow (h.alloc hB _) hB _

theorem put_at {y : World} {g : Nat} {B D : Array Value} (n : Nat) (h : y.heap[g]? = some (.cells B 22 (0, 0))) : ((y.setRow g D).drewN n).heap[g]? = some (.cells D 22 (0, 0)) := setRow_heap y g B D 22 (0, 0) h
theorem put_old (y : World) (g : Nat) (D : Array Value) (n k : Nat) (h : k ≠ g) : ((y.setRow g D).drewN n).heap[k]? = y.heap[k]? := setRow_other y g k D h
theorem put_size (y : World) (g : Nat) (D : Array Value) (n : Nat) : ((y.setRow g D).drewN n).heap.size = y.heap.size := setRow_size y g D
theorem put_bel {B : Nat} {w y : World} (h : Below B w y) {g : Nat} (hg : B ≤ g) (D : Array Value) (n : Nat) : Below B w ((y.setRow g D).drewN n) := by
  have := below_setRow h hg D
  exact ⟨this.os, this.tape, this.output, this.size, this.block⟩

theorem split_list (a b : ByteArray) : (a.extract (a.size - a.size % 2) a.size ++ b).data.toList = a.data.toList.drop (a.data.toList.length - a.data.toList.length % 2) ++ b.data.toList := by
  have e : a.data.toList.length = a.size := by simp
  have t : a.data.toList.take a.size = a.data.toList := List.take_of_length_le (by simp)
  simp only [ByteArray.data_append, ByteArray.data_extract, Array.toList_append, Array.toList_extract, e]
  rw [List.extract_eq_take_drop, List.take_of_length_le (by simp)]
theorem join_list (a b : ByteArray) : (a ++ b).data.toList = a.data.toList ++ b.data.toList := by simp [ByteArray.data_append]

theorem i22' (f : Nat → Bool) : (Try.prog.info? 22).map (·.size) = some (bs f).size := by rw [bs_size]; exact info22

set_option maxRecDepth 100000 in
set_option maxHeartbeats 4000000 in
theorem ranges_main (f : Nat → Bool) (a b : ByteArray) (w : World) (h1 : a.size ≤ 65536) (h2 : b.size ≤ 65536) :
    Calls Try.prog 3 #[.agg (bs f), .string a, .string b] w fun e w' => e = .returned (.bool true) ∧ Below w.heap.size w w' := by
  obtain ⟨z22, i22⟩ := zero_of_info zero22
  clear i22
  have h3 : a.size + b.size ≤ 1048576 := by omega
  go_enter Try.func3, Try.ntmps3
  go_wp2_with (refine wpList_load_row rfl 22 _ rfl w.heap.size rfl 22 (bs f) (0, 0) _ (heap_alloc_new w _) Try.underlying22 rfl (i22' f) ?_)
  refine (bytes4_yes f a b _ h3).mono ?_
  rintro e w1 ⟨rfl, hw⟩
  have f1 : Hid (w1.heap[w.heap.size]? = some (.cells (bs f) 22 (0, 0))) := by show w1.heap[w.heap.size]? = _; rw [hw]; exact heap_alloc2_old w _ _
  have z1 : Hid (w1.heap.size = w.heap.size + 2) := by show w1.heap.size = _; rw [hw]; simp
  have b1 : Hid (Below w.heap.size w w1) := by show Below _ _ _; rw [hw]; exact ((Below.refl _ _).alloc (Nat.le_refl _) _).alloc (by simp) _
  clear hw
  go_wp2_with (first
    | (refine wpList_load_row rfl 22 _ rfl w.heap.size rfl 22 (bs f) (0, 0) _ f1.out Try.underlying22 rfl (i22' f) ?_)
    | (refine wpList_store_row rfl 22 _ _ rfl w1.heap.size (bs f) rfl rfl 22 (bs fun _ => false) (heap_alloc_new w1 _) (i22' f) rfl (bs_one _) ?_))
  obtain ⟨F, hF⟩ : ∃ F : Nat → Bool, F = fun j => f j || covr (a ++ b).data.toList j := ⟨_, rfl⟩
  refine (zzAddRanges_any w1.heap.size f (a ++ b) (newRow w1 (bs f)) (by simp; omega) (newRow_at w1 _)).mono ?_
  rw [← hF]
  rintro e w3 ⟨rfl, n3, hw⟩
  have f3 : Hid (w3.heap[w.heap.size]? = some (.cells (bs f) 22 (0, 0))) := by
    show w3.heap[w.heap.size]? = _
    rw [hw, put_old _ _ _ _ _ (by have := z1.out; omega), newRow_old _ _ _ (by have := z1.out; omega)]; exact f1.out
  have s3 : Hid (w3.heap[w1.heap.size]? = some (.cells (bs F) 22 (0, 0))) := by
    show w3.heap[w1.heap.size]? = _
    rw [hw]; exact put_at n3 (newRow_at w1 _)
  have z3 : Hid (w3.heap.size = w.heap.size + 3) := by show w3.heap.size = _; rw [hw, put_size, newRow_size, z1.out]
  have b3 : Hid (Below w.heap.size w w3) := by show Below _ _ _; rw [hw]; exact put_bel (newRow_bel b1.out (by have := z1.out; omega) _) (by have := z1.out; omega) _ _
  have HG1 : Hid (w1.heap.size = w.heap.size + 2) := z1
  clear hw f1 z1 b1
  generalize w1.heap.size = G1 at HG1 s3
  have HF := hidP hF
  clear hF
  have c1 : (0 : Int) ≤ (a.size : Int) - (a.size : Int) % 2 := by omega
  have c2 : (a.size : Int) - (a.size : Int) % 2 ≤ a.size := by omega
  go_wp2_with (first
    | (refine wpList_load_row rfl 22 _ rfl w.heap.size rfl 22 (bs f) (0, 0) _ f3.out Try.underlying22 rfl (i22' f) ?_)
    | (refine wpList_store_row rfl 22 _ _ rfl w3.heap.size (bs f) rfl rfl 22 (bs fun _ => false) (heap_alloc_new w3 _) (i22' f) rfl (bs_one _) ?_))
  refine (zzAddRanges_any w3.heap.size f a (newRow w3 (bs f)) (by omega) (newRow_at w3 _)).mono ?_
  rintro e w5 ⟨rfl, n5, hw⟩
  have f5 : Hid (w5.heap[w.heap.size]? = some (.cells (bs f) 22 (0, 0))) := by
    show w5.heap[w.heap.size]? = _
    rw [hw, put_old _ _ _ _ _ (by have := z3.out; omega), newRow_old _ _ _ (by have := z3.out; omega)]; exact f3.out
  have s5 : Hid (w5.heap[G1]? = some (.cells (bs F) 22 (0, 0))) := by
    show w5.heap[G1]? = _
    rw [hw, put_old _ _ _ _ _ (by have := z3.out; have := HG1.out; omega), newRow_old _ _ _ (by have := z3.out; have := HG1.out; omega)]; exact s3.out
  have t5 : Hid (w5.heap[w3.heap.size]? = some (.cells (bs (fun j => f j || covr a.data.toList j)) 22 (0, 0))) := by
    show w5.heap[w3.heap.size]? = _
    rw [hw]; exact put_at n5 (newRow_at w3 _)
  have z5 : Hid (w5.heap.size = w.heap.size + 4) := by show w5.heap.size = _; rw [hw, put_size, newRow_size, z3.out]
  have b5 : Hid (Below w.heap.size w w5) := by show Below _ _ _; rw [hw]; exact put_bel (newRow_bel b3.out (by have := z3.out; omega) _) (by have := z3.out; omega) _ _
  have HG2 : Hid (w3.heap.size = w.heap.size + 3) := z3
  clear hw f3 s3 z3 b3 c1 c2
  generalize w3.heap.size = G2 at HG2 t5
  go_wp2_with fail
  refine (zzAddRanges_any G2 _ (a.extract (a.size - a.size % 2) a.size ++ b) w5 (by simp; omega) t5.out).mono ?_
  rintro e w6 ⟨rfl, n6, hw⟩
  have f6 : Hid (w6.heap[w.heap.size]? = some (.cells (bs f) 22 (0, 0))) := by
    show w6.heap[w.heap.size]? = _
    rw [hw, put_old _ _ _ _ _ (by have := HG2.out; omega)]; exact f5.out
  have s6 : Hid (w6.heap[G1]? = some (.cells (bs F) 22 (0, 0))) := by
    show w6.heap[G1]? = _
    rw [hw, put_old _ _ _ _ _ (by have := HG2.out; have := HG1.out; omega)]; exact s5.out
  have t6 : Hid (w6.heap[G2]? = some (.cells (bs F) 22 (0, 0))) := by
    show w6.heap[G2]? = _
    rw [hw, put_at n6 t5.out, HF.out]
    congr 2
    refine bs_congr (fun j _ => ?_)
    rw [split_list, Bool.or_assoc, ← covr_split, join_list]
  have z6 : Hid (w6.heap.size = w.heap.size + 4) := by show w6.heap.size = _; rw [hw, put_size, z5.out]
  have b6 : Hid (Below w.heap.size w w6) := by show Below _ _ _; rw [hw]; exact put_bel b5.out (by have := HG2.out; omega) _ _
  clear hw f5 s5 t5 z5 b5
  go_wp2_with (first
    | (refine wpList_load_row rfl 22 _ rfl G1 rfl 22 (bs F) (0, 0) _ s6.out Try.underlying22 rfl (i22' F) ?_)
    | (refine wpList_store_row rfl 22 _ _ rfl w6.heap.size (bs F) rfl rfl 22 (bs fun _ => false) (heap_alloc_new w6 _) (i22' F) rfl (bs_one _) ?_))
  refine (zzAddRanges_any w6.heap.size F (a ++ b) (newRow w6 (bs F)) (by simp; omega) (newRow_at w6 _)).mono ?_
  rintro e w8 ⟨rfl, n8, hw⟩
  have f8 : Hid (w8.heap[w.heap.size]? = some (.cells (bs f) 22 (0, 0))) := by
    show w8.heap[w.heap.size]? = _
    rw [hw, put_old _ _ _ _ _ (by have := z6.out; omega), newRow_old _ _ _ (by have := z6.out; omega)]; exact f6.out
  have s8 : Hid (w8.heap[G1]? = some (.cells (bs F) 22 (0, 0))) := by
    show w8.heap[G1]? = _
    rw [hw, put_old _ _ _ _ _ (by have := z6.out; have := HG1.out; omega), newRow_old _ _ _ (by have := z6.out; have := HG1.out; omega)]; exact s6.out
  have t8 : Hid (w8.heap[G2]? = some (.cells (bs F) 22 (0, 0))) := by
    show w8.heap[G2]? = _
    rw [hw, put_old _ _ _ _ _ (by have := z6.out; have := HG2.out; omega), newRow_old _ _ _ (by have := z6.out; have := HG2.out; omega)]; exact t6.out
  have u8 : Hid (w8.heap[w6.heap.size]? = some (.cells (bs F) 22 (0, 0))) := by
    show w8.heap[w6.heap.size]? = _
    rw [hw, put_at n8 (newRow_at w6 _), HF.out]
    congr 2
    refine bs_congr (fun j _ => ?_)
    rw [Bool.or_assoc, Bool.or_self]
  have z8 : Hid (w8.heap.size = w.heap.size + 5) := by show w8.heap.size = _; rw [hw, put_size, newRow_size, z6.out]
  have b8 : Hid (Below w.heap.size w w8) := by show Below _ _ _; rw [hw]; exact put_bel (newRow_bel b6.out (by have := z6.out; omega) _) (by have := z6.out; omega) _ _
  have HG3 : Hid (w6.heap.size = w.heap.size + 4) := z6
  clear hw f6 s6 t6 z6 b6
  generalize w6.heap.size = G3 at HG3 u8
  go_wp2_with (refine wpList_load_row rfl 22 _ rfl w.heap.size rfl 22 (bs f) (0, 0) _ f8.out Try.underlying22 rfl (i22' f) ?_)
  refine (sweep_any f (a ++ b) _ (by simp; omega)).mono ?_
  rw [← HF.out]
  rintro e w9 ⟨rfl, hb9⟩
  have s9 : Hid (w9.heap[G1]? = some (.cells (bs F) 22 (0, 0))) := by
    show w9.heap[G1]? = _
    rw [hb9.block G1 (by have := z8.out; have := HG1.out; omega)]; exact s8.out
  have t9 : Hid (w9.heap[G2]? = some (.cells (bs F) 22 (0, 0))) := by
    show w9.heap[G2]? = _
    rw [hb9.block G2 (by have := z8.out; have := HG2.out; omega)]; exact t8.out
  have u9 : Hid (w9.heap[G3]? = some (.cells (bs F) 22 (0, 0))) := by
    show w9.heap[G3]? = _
    rw [hb9.block G3 (by have := z8.out; have := HG3.out; omega)]; exact u8.out
  have z9 : Hid (w.heap.size + 5 ≤ w9.heap.size) := by show _ ≤ _; have := hb9.size; have := z8.out; omega
  have b9 : Hid (Below w.heap.size w w9) := b8.out.trans (hb9.mono (by have := z8.out; omega))
  clear hb9 f8 s8 t8 u8 z8 b8
  have HE := eq22 F
  have s10 : Hid ((newRow w9 (bs F)).heap[G1]? = some (.cells (bs F) 22 (0, 0))) := by
    show (newRow w9 (bs F)).heap[G1]? = _
    rw [newRow_old _ _ _ (by have := z9.out; have := HG1.out; omega)]; exact s9.out
  have t10 : Hid ((newRow w9 (bs F)).heap[G2]? = some (.cells (bs F) 22 (0, 0))) := by
    show (newRow w9 (bs F)).heap[G2]? = _
    rw [newRow_old _ _ _ (by have := z9.out; have := HG2.out; omega)]; exact t9.out
  have u10 : Hid ((newRow w9 (bs F)).heap[G3]? = some (.cells (bs F) 22 (0, 0))) := by
    show (newRow w9 (bs F)).heap[G3]? = _
    rw [newRow_old _ _ _ (by have := z9.out; have := HG3.out; omega)]; exact u9.out
  have b10 : Hid (Below w.heap.size w (newRow w9 (bs F))) := newRow_bel b9.out (by have := z9.out; omega) _
  clear b9 s9 t9 u9
  go_wp2_with (first
    | (refine wpList_store_row rfl 22 _ _ rfl w9.heap.size (bs F) rfl rfl 22 (bs fun _ => false) (heap_alloc_new w9 _) (i22' F) rfl (bs_one _) ?_)
    | (refine wpList_load_row rfl 22 _ rfl G1 rfl 22 (bs F) (0, 0) _ s10.out Try.underlying22 rfl (i22' F) ?_)
    | (refine wpList_load_row rfl 22 _ rfl w9.heap.size rfl 22 (bs F) (0, 0) _ (newRow_at w9 (bs F)) Try.underlying22 rfl (i22' F) ?_))
  refine wp_load_row 22 _ rfl G2 rfl 22 (bs F) (0, 0) _ t10.out Try.underlying22 rfl (i22' F) ?_
  go_wp2_with fail
  refine wp_load_row 22 _ rfl w9.heap.size rfl 22 (bs F) (0, 0) _ (newRow_at w9 (bs F)) Try.underlying22 rfl (i22' F) ?_
  go_wp2_with fail
  refine wp_load_row 22 _ rfl G3 rfl 22 (bs F) (0, 0) _ u10.out Try.underlying22 rfl (i22' F) ?_
  go_wp2_with fail
  refine wp_load_row 22 _ rfl w9.heap.size rfl 22 (bs F) (0, 0) _ (newRow_at w9 (bs F)) Try.underlying22 rfl (i22' F) ?_
  go_wp2_with fail
  go_ret
  exact ⟨rfl, b10.out⟩

theorem ranges_all (f : Nat → Bool) (a b : ByteArray) (w : World) :
    Calls Try.prog 3 #[.agg (bs f), .string a, .string b] w fun e w' => e = .returned (.bool true) ∧ Below w.heap.size w w' := by
  by_cases h : a.size + b.size ≤ 1048576
  · by_cases h1 : a.size ≤ 65536
    · by_cases h2 : b.size ≤ 65536
      · exact ranges_main f a b w h1 h2
      · exact ranges_a f a b w h (Or.inr ⟨h1, by omega⟩)
    · exact ranges_a f a b w h (Or.inl (by omega))
  · exact ranges_long f a b w h
end Go.Proofs.Qxb6617674a
