import Derived.Laws.Rows
import Derived.Laws.Tables
import Derived.Deep.WholeRow
namespace Go.Proofs.Qxb6617674a

/-- n cells, cell i being v i. -/
def row (n : Nat) (v : Nat → Value) : Array Value := ((List.range n).map v).toArray

theorem row_size (n : Nat) (v : Nat → Value) : (row n v).size = n := by simp [row]
theorem row_get (n : Nat) (v : Nat → Value) (i : Nat) (h : i < n) : (row n v)[i]? = some (v i) := by simp [row, h]
theorem row_congr {n : Nat} {v v' : Nat → Value} (h : ∀ i, i < n → v i = v' i) : row n v = row n v' := by
  unfold row
  congr 1
  exact List.map_congr_left (fun i hi => h i (by simpa using hi))
theorem row_set (n : Nat) (v : Nat → Value) (i : Nat) (x : Value) : (row n v).setIfInBounds i x = row n (fun j => if j = i then x else v j) := by
  apply Array.ext_getElem?
  intro j
  by_cases hj : j < n
  · rw [row_get _ _ _ hj, Array.getElem?_setIfInBounds]
    by_cases h : i = j
    · subst h
      simp [row_size, hj]
    · have h' : ¬ j = i := fun e => h e.symm
      simp [h, h', row_get _ _ _ hj]
  · rw [Array.getElem?_eq_none (by simp [row_size]; omega), Array.getElem?_eq_none (by simp [row_size]; omega)]
theorem row_one (n : Nat) (v : Nat → Value) (h : ∀ i, (v i).oneCell' = true) : (row n v).all (·.oneCell') = true := by
  rw [Array.all_eq_true_iff_forall_mem]
  intro x hx
  simp [row] at hx
  obtain ⟨i, _, rfl⟩ := hx
  exact h i

/-- A set of bytes. -/
def bs (f : Nat → Bool) : Array Value := row 256 (fun i => .bool (f i))
/-- 257 counts. -/
def ds (g : Nat → Int) : Array Value := row 257 (fun i => .int .i64 (g i))

theorem bs_size (f : Nat → Bool) : (bs f).size = 256 := row_size _ _
theorem ds_size (g : Nat → Int) : (ds g).size = 257 := row_size _ _
theorem bs_get (f : Nat → Bool) (i : Nat) (h : i < 256) : (bs f)[i]? = some (.bool (f i)) := row_get _ _ _ h
theorem ds_get (g : Nat → Int) (i : Nat) (h : i < 257) : (ds g)[i]? = some (.int .i64 (g i)) := row_get _ _ _ h
theorem bs_set (f : Nat → Bool) (i : Nat) (x : Bool) : (bs f).setIfInBounds i (.bool x) = bs (fun j => if j = i then x else f j) := by
  unfold bs
  rw [row_set]
  exact row_congr (fun j _ => by by_cases h : j = i <;> simp [h])
theorem ds_set (g : Nat → Int) (i : Nat) (x : Int) : (ds g).setIfInBounds i (.int .i64 x) = ds (fun j => if j = i then x else g j) := by
  unfold ds
  rw [row_set]
  exact row_congr (fun j _ => by by_cases h : j = i <;> simp [h])
theorem bs_congr {f f' : Nat → Bool} (h : ∀ i, i < 256 → f i = f' i) : bs f = bs f' := row_congr (fun i hi => by rw [h i hi])
theorem ds_congr {f f' : Nat → Int} (h : ∀ i, i < 257 → f i = f' i) : ds f = ds f' := row_congr (fun i hi => by rw [h i hi])
theorem bs_one (f : Nat → Bool) : (bs f).all (·.oneCell') = true := row_one _ _ (fun _ => rfl)
theorem ds_one (g : Nat → Int) : (ds g).all (·.oneCell') = true := row_one _ _ (fun _ => rfl)

/-- Is j covered by some pair of l? -/
def covr : List UInt8 → Nat → Bool
  | a :: b :: r, j => (decide (a.toNat ≤ j) && decide (j ≤ b.toNat)) || covr r j
  | _, _ => false

theorem covr_append (l r : List UInt8) (j : Nat) (he : l.length % 2 = 0) : covr (l ++ r) j = (covr l j || covr r j) := by
  match l with
  | [] => simp [covr]
  | [a] => simp at he
  | a :: b :: l =>
    have := covr_append l r j (by simp only [List.length_cons] at he; omega)
    simp [covr, this, Bool.or_assoc]

/-- A lone last byte covers nothing. -/
theorem covr_even (l : List UInt8) (j : Nat) : covr l j = covr (l.take (l.length - l.length % 2)) j := by
  match l with
  | [] => rfl
  | [a] => simp [covr]
  | a :: b :: l =>
    have := covr_even l j
    have e : (a :: b :: l).length - (a :: b :: l).length % 2 = (l.length - l.length % 2) + 1 + 1 := by
      simp only [List.length_cons]; omega
    rw [e]
    simp only [List.take_succ_cons, covr, ← this]

theorem covr_split (a b : List UInt8) (j : Nat) : covr (a ++ b) j = (covr a j || covr (a.drop (a.length - a.length % 2) ++ b) j) := by
  have h1 := covr_even a j
  have h2 : a ++ b = a.take (a.length - a.length % 2) ++ (a.drop (a.length - a.length % 2) ++ b) := by
    rw [← List.append_assoc, List.take_append_drop]
  rw [h2, covr_append _ _ _ (by simp; omega), ← h1]

/-- The byte at place i, as a number. -/
def at8 (l : List UInt8) (i : Nat) : Nat := (l[i]?.getD 0).toNat

theorem take_two (l : List UInt8) (k : Nat) (h : 2 * k + 1 < l.length) : l.take (2 * (k + 1)) = l.take (2 * k) ++ [l[2 * k], l[2 * k + 1]] := by
  have h1 : l.take (2 * k + 1 + 1) = l.take (2 * k + 1) ++ [l[2 * k + 1]] := List.take_succ_eq_append_getElem h
  have h2 : l.take (2 * k + 1) = l.take (2 * k) ++ [l[2 * k]] := List.take_succ_eq_append_getElem (by omega)
  rw [show 2 * (k + 1) = 2 * k + 1 + 1 by omega, h1, h2, List.append_assoc]
  rfl

theorem covr_step (l : List UInt8) (k j : Nat) (h : 2 * k + 1 < l.length) :
    covr (l.take (2 * (k + 1))) j = (covr (l.take (2 * k)) j || (decide (at8 l (2 * k) ≤ j) && decide (j ≤ at8 l (2 * k + 1)))) := by
  have e : l.take (2 * (k + 1)) = l.take (2 * k) ++ [l[2 * k], l[2 * k + 1]] := take_two l k h
  rw [e, covr_append _ _ _ (by simp; omega)]
  have e0 : at8 l (2 * k) = l[2 * k].toNat := by simp [at8, List.getElem?_eq_getElem (show 2 * k < l.length by omega)]
  have e1 : at8 l (2 * k + 1) = l[2 * k + 1].toNat := by simp [at8, List.getElem?_eq_getElem h]
  rw [e0, e1]
  simp [covr]

theorem covr_end (l : List UInt8) (k j : Nat) (h : l.length ≤ 2 * k + 1) : covr (l.take (2 * k)) j = covr l j := by
  by_cases hl : l.length ≤ 2 * k
  · rw [List.take_of_length_le hl]
  · have e : 2 * k = l.length - l.length % 2 := by omega
    rw [e, ← covr_even]

/-! ### The sweep -/
/-- The marks of the pairs of l at c. -/
def dep : List UInt8 → Nat → Int
  | a :: b :: r, c => (if a.toNat ≤ b.toNat then (if c = a.toNat then 1 else 0) - (if c = b.toNat + 1 then 1 else 0) else 0) + dep r c
  | _, _ => 0

/-- How many pairs of l cover c. -/
def cnt : List UInt8 → Nat → Int
  | a :: b :: r, c => (if a.toNat ≤ c ∧ c ≤ b.toNat then 1 else 0) + cnt r c
  | _, _ => 0

/-- The sum of the marks below k. -/
def psum (g : Nat → Int) : Nat → Int
  | 0 => 0
  | k + 1 => psum g k + g k

theorem psum_add (g h : Nat → Int) (k : Nat) : psum (fun c => g c + h c) k = psum g k + psum h k := by
  induction k with
  | zero => rfl
  | succ k ih => simp only [psum, ih]; omega
theorem psum_zero (k : Nat) : psum (fun _ => 0) k = 0 := by
  induction k with
  | zero => rfl
  | succ k ih => simp [psum, ih]
theorem psum_mark (a b k : Nat) (h : a ≤ b) : psum (fun c => (if c = a then 1 else 0) - (if c = b + 1 then 1 else 0)) k = if a < k ∧ k ≤ b + 1 then 1 else 0 := by
  induction k with
  | zero => simp [psum]
  | succ k ih =>
    simp only [psum, ih]
    have c1 : (if k = a then (1 : Int) else 0) = if k = a then 1 else 0 := rfl
    split <;> split <;> split <;> split <;> omega

theorem psum_dep (l : List UInt8) (k : Nat) : psum (dep l) (k + 1) = cnt l k := by
  match l with
  | [] => have : dep [] = fun _ => 0 := by funext c; rfl
          rw [this, psum_zero]; rfl
  | [a] => have : dep [a] = fun _ => 0 := by funext c; rfl
           rw [this, psum_zero]; rfl
  | a :: b :: r =>
    have ih := psum_dep r k
    have e : dep (a :: b :: r) = fun c => (if a.toNat ≤ b.toNat then (if c = a.toNat then 1 else 0) - (if c = b.toNat + 1 then 1 else 0) else 0) + dep r c := by funext c; rfl
    rw [e, psum_add, ih, cnt]
    by_cases h : a.toNat ≤ b.toNat
    · simp only [if_pos h]
      rw [psum_mark _ _ _ h]
      congr 1
      by_cases h1 : a.toNat ≤ k <;> by_cases h2 : k ≤ b.toNat <;> simp [h1, h2] <;> omega
    · simp only [if_neg h]
      rw [psum_zero]
      congr 1
      split <;> omega

theorem cnt_nonneg (l : List UInt8) (k : Nat) : 0 ≤ cnt l k ∧ cnt l k ≤ l.length := by
  match l with
  | [] => simp [cnt]
  | [a] => simp [cnt]
  | a :: b :: r =>
    have := cnt_nonneg r k
    simp only [cnt, List.length_cons]
    split <;> omega
theorem cnt_pos (l : List UInt8) (k : Nat) : decide (0 < cnt l k) = covr l k := by
  match l with
  | [] => simp [cnt, covr]
  | [a] => simp [cnt, covr]
  | a :: b :: r =>
    have h0 := cnt_nonneg r k
    have ih := cnt_pos r k
    rw [covr, ← ih, Bool.eq_iff_iff]
    have e : cnt (a :: b :: r) k = (if a.toNat ≤ k ∧ k ≤ b.toNat then 1 else 0) + cnt r k := rfl
    simp only [decide_eq_true_eq, Bool.or_eq_true, Bool.and_eq_true]
    rw [e]
    by_cases h : a.toNat ≤ k ∧ k ≤ b.toNat
    · rw [if_pos h]
      exact ⟨fun _ => Or.inl h, fun _ => by omega⟩
    · rw [if_neg h]
      exact ⟨fun q => Or.inr (by omega), fun q => by rcases q with q | q; exact absurd q h; omega⟩
theorem dep_bound (l : List UInt8) (c : Nat) : -(l.length : Int) ≤ dep l c ∧ dep l c ≤ l.length := by
  match l with
  | [] => simp [dep]
  | [a] => simp [dep]
  | a :: b :: r =>
    have := dep_bound r c
    simp only [dep, List.length_cons]
    split <;> (try split) <;> (try split) <;> omega

theorem dep_append (l r : List UInt8) (c : Nat) (he : l.length % 2 = 0) : dep (l ++ r) c = dep l c + dep r c := by
  match l with
  | [] => simp [dep]
  | [a] => simp at he
  | a :: b :: l =>
    have := dep_append l r c (by simp only [List.length_cons] at he; omega)
    simp only [List.cons_append, dep, this]; omega
theorem dep_step (l : List UInt8) (k c : Nat) (h : 2 * k + 1 < l.length) :
    dep (l.take (2 * (k + 1))) c = dep (l.take (2 * k)) c + if at8 l (2 * k) ≤ at8 l (2 * k + 1) then (if c = at8 l (2 * k) then 1 else 0) - (if c = at8 l (2 * k + 1) + 1 then 1 else 0) else 0 := by
  have e : l.take (2 * (k + 1)) = l.take (2 * k) ++ [l[2 * k], l[2 * k + 1]] := take_two l k h
  rw [e, dep_append _ _ _ (by simp; omega)]
  have e0 : at8 l (2 * k) = l[2 * k].toNat := by simp [at8, List.getElem?_eq_getElem (show 2 * k < l.length by omega)]
  have e1 : at8 l (2 * k + 1) = l[2 * k + 1].toNat := by simp [at8, List.getElem?_eq_getElem h]
  rw [e0, e1]
  simp [dep]
theorem dep_end (l : List UInt8) (c : Nat) : dep (l.take (2 * (l.length / 2))) c = dep l c := by
  match l with
  | [] => rfl
  | [a] => simp [dep]
  | a :: b :: l =>
    have := dep_end l c
    have e : 2 * ((a :: b :: l).length / 2) = 2 * (l.length / 2) + 1 + 1 := by simp only [List.length_cons]; omega
    rw [e]
    simp only [List.take_succ_cons, dep, this]
end Go.Proofs.Qxb6617674a
