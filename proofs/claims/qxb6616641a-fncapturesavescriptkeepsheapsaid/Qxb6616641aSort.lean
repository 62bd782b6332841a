import Derived.Test.Qxb6616641aPush
namespace Go.Proofs.Qxb6616641a

/-! ### The order of lists of numbers -/
theorem lexL_vals (xs ys : List Int) : lexL xs ys = -1 ∨ lexL xs ys = 0 ∨ lexL xs ys = 1 := by
  induction xs generalizing ys with
  | nil => simp [lexL]
  | cons x xs ih =>
    cases ys with
    | nil => simp [lexL]
    | cons y ys =>
      simp only [lexL]
      split
      · simp
      · split
        · simp
        · exact ih ys

theorem lexL_neg (xs ys : List Int) : lexL ys xs = - lexL xs ys := by
  induction xs generalizing ys with
  | nil => cases ys <;> simp [lexL]
  | cons x xs ih =>
    cases ys with
    | nil => simp [lexL]
    | cons y ys =>
      simp only [lexL]
      by_cases h1 : x < y
      · rw [if_neg (by omega), if_pos h1, if_pos h1]; rfl
      · by_cases h2 : y < x
        · rw [if_pos h2, if_neg h1, if_pos h2]
        · rw [if_neg h2, if_neg h1, if_neg h1, if_neg h2, ih ys]

theorem lexL_zero (xs ys : List Int) (hl : xs.length = ys.length) (h : lexL xs ys = 0) : xs = ys := by
  induction xs generalizing ys with
  | nil => cases ys with
    | nil => rfl
    | cons y ys => simp at hl
  | cons x xs ih =>
    cases ys with
    | nil => simp at hl
    | cons y ys =>
      simp only [lexL] at h
      by_cases h1 : x < y
      · rw [if_pos h1] at h; omega
      · rw [if_neg h1] at h
        by_cases h2 : y < x
        · rw [if_pos h2] at h; omega
        · rw [if_neg h2] at h
          rw [ih ys (by simpa using hl) h, show x = y by omega]

theorem lexL_trans (xs ys zs : List Int) (h1 : xs.length = ys.length) (h2 : ys.length = zs.length) (a : lexL xs ys ≤ 0) (b : lexL ys zs ≤ 0) : lexL xs zs ≤ 0 := by
  induction xs generalizing ys zs with
  | nil => simp [lexL]
  | cons x xs ih =>
    match ys, zs, h1, h2 with
    | y :: ys, z :: zs, h1, h2 =>
      simp only [lexL] at a b ⊢
      by_cases p1 : x < z
      · rw [if_pos p1]; omega
      · rw [if_neg p1]
        by_cases p2 : z < x
        · exfalso
          by_cases q1 : x < y
          · rw [if_neg (by omega), if_pos (by omega)] at b; omega
          · rw [if_neg q1] at a
            by_cases q2 : y < x
            · rw [if_pos q2] at a; omega
            · rw [if_neg (by omega), if_pos (by omega)] at b; omega
        · rw [if_neg p2]
          by_cases q1 : x < y
          · exfalso
            rw [if_neg (by omega), if_pos (by omega)] at b; omega
          · rw [if_neg q1] at a
            by_cases q2 : y < x
            · rw [if_pos q2] at a; omega
            · rw [if_neg q2] at a
              rw [if_neg (by omega), if_neg (by omega)] at b
              exact ih ys zs (by simpa using h1) (by simpa using h2) a b

/-! ### Images, ordered by all six numbers -/
def SRec.toL (a : SRec) : List Int := [a.side, a.key, a.stamp, a.price, a.id, a.rem]
def recCmp (a b : SRec) : Int := lexL a.toL b.toL
def rle (a b : SRec) : Bool := decide (recCmp a b ≤ 0)

theorem toL_inj {a b : SRec} (h : a.toL = b.toL) : a = b := by
  cases a; cases b
  simp [SRec.toL] at h
  simp [h]
theorem rle_iff (a b : SRec) : rle a b = true ↔ recCmp a b ≤ 0 := ⟨of_decide_eq_true, decide_eq_true⟩
theorem rle_trans (a b c : SRec) (h : rle a b = true) (k : rle b c = true) : rle a c = true := by
  rw [rle_iff] at *
  exact lexL_trans a.toL b.toL c.toL rfl rfl h k
theorem rle_total (a b : SRec) : (rle a b || rle b a) = true := by
  rw [Bool.or_eq_true, rle_iff, rle_iff]
  have : recCmp b a = - recCmp a b := lexL_neg a.toL b.toL
  omega
theorem rle_antisymm (a b : SRec) (h : rle a b = true) (k : rle b a = true) : a = b := by
  rw [rle_iff] at *
  have e : recCmp b a = - recCmp a b := lexL_neg a.toL b.toL
  have e0 : recCmp a b = 0 := by omega
  exact toL_inj (lexL_zero _ _ rfl e0)

/-! ### The merge sort -/
def pass : Nat → Nat → List SRec → List SRec
  | 0, _, _ => []
  | f + 1, w, S => if S = [] then [] else List.merge (S.take w) ((S.drop w).take w) rle ++ pass f w (S.drop (2 * w))

def sortW : Nat → Nat → List SRec → List SRec
  | 0, _, S => S
  | f + 1, w, S => if w < S.length then sortW f (2 * w) (pass S.length w S) else S

def msort (S : List SRec) : List SRec := sortW S.length 1 S

theorem pass_perm (f w : Nat) (S : List SRec) (hw : 1 ≤ w) (hf : S.length ≤ f) : (pass f w S).Perm S := by
  induction f generalizing S with
  | zero =>
    obtain rfl : S = [] := List.eq_nil_of_length_eq_zero (by omega)
    exact List.Perm.refl _
  | succ f ih =>
    simp only [pass]
    by_cases h : S = []
    · rw [if_pos h, h]
    · rw [if_neg h]
      have hpos : 0 < S.length := List.length_pos_iff.2 h
      have ih' := ih (S.drop (2 * w)) (by simp; omega)
      have e : S = S.take w ++ ((S.drop w).take w ++ S.drop (2 * w)) := by
        have e2 : S.drop (2 * w) = (S.drop w).drop w := by rw [List.drop_drop]; congr 1; omega
        rw [e2, List.take_append_drop, List.take_append_drop]
      refine List.Perm.trans ?_ (List.Perm.of_eq e.symm)
      rw [← List.append_assoc]
      exact List.Perm.append (List.merge_perm_append rle) ih'
theorem pass_length (f w : Nat) (S : List SRec) (hw : 1 ≤ w) (hf : S.length ≤ f) : (pass f w S).length = S.length := (pass_perm f w S hw hf).length_eq

theorem sortW_perm (f w : Nat) (S : List SRec) (hw : 1 ≤ w) : (sortW f w S).Perm S := by
  induction f generalizing w S with
  | zero => exact List.Perm.refl _
  | succ f ih =>
    simp only [sortW]
    split
    · exact (ih (2 * w) _ (by omega)).trans (pass_perm _ _ _ hw (Nat.le_refl _))
    · exact List.Perm.refl _

/-- Every aligned run of w is in order. -/
def CS (w : Nat) (S : List SRec) : Prop := ∀ c, List.Pairwise (fun a b => rle a b = true) ((S.drop (c * w)).take w)

theorem CS_pass (f w : Nat) (S : List SRec) (hw : 1 ≤ w) (hf : S.length ≤ f) (h : CS w S) : CS (2 * w) (pass f w S) := by
  induction f generalizing S with
  | zero =>
    intro c
    simp [pass]
  | succ f ih =>
    simp only [pass]
    by_cases hS : S = []
    · rw [if_pos hS]; intro c; simp
    · rw [if_neg hS]
      have hpos : 0 < S.length := List.length_pos_iff.2 hS
      have hM : List.Pairwise (fun a b => rle a b = true) (List.merge (S.take w) ((S.drop w).take w) rle) :=
        List.pairwise_merge rle_trans rle_total _ _ (by simpa using h 0) (by simpa using h 1)
      have hlM : (List.merge (S.take w) ((S.drop w).take w) rle).length = min (2 * w) S.length := by
        rw [List.length_merge]; simp; omega
      generalize List.merge (S.take w) ((S.drop w).take w) rle = M at hM hlM
      by_cases hlen : 2 * w ≤ S.length
      · have hR := ih (S.drop (2 * w)) (by simp; omega) (fun c => by
          have := h (c + 2)
          rw [List.drop_drop]
          rw [show 2 * w + c * w = (c + 2) * w by rw [Nat.add_mul]; omega]
          exact this)
        have hl2 : M.length = 2 * w := by omega
        intro c
        cases c with
        | zero =>
          rw [Nat.zero_mul, List.drop_zero, List.take_append_of_le_length (by omega), List.take_of_length_le (by omega)]
          exact hM
        | succ c =>
          rw [show (c + 1) * (2 * w) = M.length + c * (2 * w) by rw [Nat.add_mul, hl2]; omega, List.drop_append]
          have e : M.drop (M.length + c * (2 * w)) = [] := List.drop_eq_nil_of_le (by omega)
          rw [e, List.nil_append, show M.length + c * (2 * w) - M.length = c * (2 * w) by omega]
          exact hR c
      · have hz : S.drop (2 * w) = [] := List.drop_eq_nil_of_le (by omega)
        have hp0 : pass f w [] = [] := by cases f <;> simp [pass]
        rw [hz, hp0, List.append_nil]
        intro c
        exact (hM.sublist (List.drop_sublist _ _)).sublist (List.take_sublist _ _)

theorem sortW_sorted (f w : Nat) (S : List SRec) (hw : 1 ≤ w) (hf : S.length ≤ w + f) (h : CS w S) : List.Pairwise (fun a b => rle a b = true) (sortW f w S) := by
  induction f generalizing w S with
  | zero =>
    have := h 0
    rw [Nat.zero_mul, List.drop_zero, List.take_of_length_le (by omega)] at this
    exact this
  | succ f ih =>
    simp only [sortW]
    by_cases hlt : w < S.length
    · rw [if_pos hlt]
      exact ih (2 * w) _ (by omega) (by rw [pass_length _ _ _ hw (Nat.le_refl _)]; omega) (CS_pass _ _ _ hw (Nat.le_refl _) h)
    · rw [if_neg hlt]
      have := h 0
      rw [Nat.zero_mul, List.drop_zero, List.take_of_length_le (by omega)] at this
      exact this

theorem msort_perm (S : List SRec) : (msort S).Perm S := sortW_perm _ _ _ (by omega)
theorem msort_sorted (S : List SRec) : List.Pairwise (fun a b => rle a b = true) (msort S) := by
  refine sortW_sorted _ _ _ (by omega) (by omega) (fun c => ?_)
  rcases hd : (S.drop (c * 1)).take 1 with _ | ⟨x, _ | ⟨y, t⟩⟩
  · exact List.Pairwise.nil
  · simp
  · have : ((S.drop (c * 1)).take 1).length ≤ 1 := List.length_take_le _ _
    rw [hd] at this; simp at this

theorem msort_eq (S T : List SRec) (h : S.Perm T) : msort S = msort T :=
  List.Perm.eq_of_pairwise (fun a b _ _ => rle_antisymm a b) (msort_sorted S) (msort_sorted T) (((msort_perm S).trans h).trans (msort_perm T).symm)
/-! ### The heap -/
theorem cmp_trans' (a b c : SRec) (h : a.cmp b ≤ 0) (k : b.cmp c ≤ 0) : a.cmp c ≤ 0 := by
  unfold SRec.cmp cmpPos cmpI at *
  split at h
  · split at k
    · rw [if_pos (by omega)]; omega
    · split at k
      · omega
      · rw [if_pos (by omega)]; omega
  · split at h
    · omega
    · split at k
      · rw [if_pos (by omega)]; omega
      · split at k
        · omega
        · rw [if_neg (by omega), if_neg (by omega)]
          repeat' split
          all_goals (try omega)
          all_goals (repeat' split at h)
          all_goals (try omega)
          all_goals (repeat' split at k)
          all_goals omega
theorem cmp_total' (a b : SRec) (h : ¬ a.cmp b ≤ 0) : b.cmp a ≤ 0 := by
  unfold SRec.cmp cmpPos cmpI at *
  repeat' split
  all_goals (try omega)
  all_goals (repeat' split at h)
  all_goals omega
theorem cmp_total2 (a b : SRec) (h : 0 ≤ a.cmp b) : b.cmp a ≤ 0 := by
  unfold SRec.cmp cmpPos cmpI at *
  repeat' split
  all_goals (try omega)
  all_goals (repeat' split at h)
  all_goals omega
theorem cmp_refl' (a : SRec) : a.cmp a ≤ 0 := by
  simp [SRec.cmp, cmpPos, cmpI]

def HeapL (l : List SRec) : Prop := ∀ i, 0 < i → i < l.length → (l.getD ((i - 1) / 2) SRec.zero).cmp (l.getD i SRec.zero) ≤ 0

/-- A heap, but for place i; its children lie under its parent. -/
def HeapEx (l : List SRec) (i : Nat) : Prop :=
  (∀ j, 0 < j → j < l.length → j ≠ i → (l.getD ((j - 1) / 2) SRec.zero).cmp (l.getD j SRec.zero) ≤ 0) ∧
  (∀ j, 0 < j → j < l.length → (j - 1) / 2 = i → 0 < i → (l.getD ((i - 1) / 2) SRec.zero).cmp (l.getD j SRec.zero) ≤ 0)

theorem swapL_length (l : List SRec) (i j : Nat) : (swapL l i j).length = l.length := by simp [swapL]
theorem swapL_getD (l : List SRec) (i j k : Nat) (hi : i < l.length) (hj : j < l.length) :
    (swapL l i j).getD k SRec.zero = if k = j then l.getD i SRec.zero else if k = i then l.getD j SRec.zero else l.getD k SRec.zero := by
  unfold swapL
  simp only [List.getD_eq_getElem?_getD, List.getElem?_set, List.length_set]
  by_cases h1 : j = k
  · subst h1; simp [hj]
  · rw [if_neg h1, if_neg (Ne.symm h1)]
    by_cases h2 : i = k
    · subst h2; simp [hi]
    · rw [if_neg h2, if_neg (Ne.symm h2)]
theorem swapL_perm (l : List SRec) (i j : Nat) (hi : i < l.length) (hj : j < l.length) : (swapL l i j).Perm l := by
  unfold swapL
  have e1 : l.getD j SRec.zero = l[j] := by simp [hj]
  have e2 : l.getD i SRec.zero = l[i] := by simp [hi]
  rw [e1, e2]
  exact List.set_set_perm hi hj

theorem sift_perm (f : Nat) (l : List SRec) (i : Nat) (hi : i < l.length) : (sift f l i).Perm l := by
  induction f generalizing l i with
  | zero => exact List.Perm.refl _
  | succ f ih =>
    simp only [sift]
    split
    · exact List.Perm.refl _
    · split
      · exact List.Perm.refl _
      · exact (ih _ _ (by rw [swapL_length]; omega)).trans (swapL_perm _ _ _ hi (by omega))

theorem sift_heap (f : Nat) (l : List SRec) (i : Nat) (hf : i ≤ f) (hi : i < l.length) (h : HeapEx l i) : HeapL (sift f l i) := by
  induction f generalizing l i with
  | zero =>
    intro j h0 hj
    exact h.1 j h0 hj (by omega)
  | succ f ih =>
    simp only [sift]
    by_cases hz : i = 0
    · rw [if_pos hz]
      intro j h0 hj
      exact h.1 j h0 hj (by omega)
    · rw [if_neg hz]
      by_cases hc : 0 ≤ (l.getD i SRec.zero).cmp (l.getD ((i - 1) / 2) SRec.zero)
      · rw [if_pos hc]
        intro j h0 hj
        by_cases hji : j = i
        · subst hji; exact cmp_total2 _ _ hc
        · exact h.1 j h0 hj hji
      · rw [if_neg hc]
        have hp : (i - 1) / 2 < l.length := by omega
        refine ih _ _ (by omega) (by rw [swapL_length]; exact hp) ⟨fun j h0 hj hne => ?_, fun j h0 hj hpar hpp => ?_⟩
        · rw [swapL_length] at hj
          rw [swapL_getD _ _ _ _ hi hp, swapL_getD _ _ _ _ hi hp, if_neg hne]
          by_cases hji : j = i
          · subst hji
            rw [if_pos rfl, if_pos rfl]; omega
          · rw [if_neg hji]
            by_cases hq : (j - 1) / 2 = (i - 1) / 2
            · rw [if_pos hq]
              have := h.1 j h0 hj hji
              rw [hq] at this
              exact cmp_trans' _ _ _ (by omega) this
            · rw [if_neg hq]
              by_cases hq2 : (j - 1) / 2 = i
              · rw [if_pos hq2]
                exact h.2 j h0 hj hq2 (by omega)
              · rw [if_neg hq2]
                exact h.1 j h0 hj hji
        · rw [swapL_length] at hj
          have hgp := h.1 ((i - 1) / 2) hpp hp (by omega)
          rw [swapL_getD _ _ _ _ hi hp, swapL_getD _ _ _ _ hi hp, if_neg (by omega), if_neg (by omega), if_neg (by omega)]
          by_cases hji : j = i
          · rw [if_pos hji]; exact hgp
          · rw [if_neg hji]
            have := h.1 j h0 hj hji
            rw [hpar] at this
            exact cmp_trans' _ _ _ hgp this

theorem hpush_perm (rs : List SRec) (r : SRec) : (hpush rs r).Perm (rs ++ [r]) := sift_perm _ _ _ (by simp)
theorem hpush_heap (rs : List SRec) (r : SRec) (h : HeapL rs) : HeapL (hpush rs r) := by
  refine sift_heap _ _ _ (Nat.le_refl _) (by simp) ⟨fun j h0 hj hne => ?_, fun j h0 hj hp hi => ?_⟩
  · simp at hj
    have := h j h0 (by omega)
    simp only [List.getD_eq_getElem?_getD] at *
    rw [List.getElem?_append_left (by omega), List.getElem?_append_left (by omega)]
    exact this
  · simp at hj
    omega
theorem foldl_hpush (rs acc : List SRec) : (rs.foldl hpush acc).Perm (acc ++ rs) := by
  induction rs generalizing acc with
  | nil => simp
  | cons r rs ih =>
    simp only [List.foldl_cons]
    refine (ih _).trans ?_
    refine (List.Perm.append_right rs (hpush_perm acc r)).trans ?_
    simp
theorem foldl_heap (rs acc : List SRec) (h : HeapL acc) : HeapL (rs.foldl hpush acc) := by
  induction rs generalizing acc with
  | nil => exact h
  | cons r rs ih => exact ih _ (hpush_heap _ _ h)
/-! ### The merge, step by step -/
def seg (S : List SRec) (a b : Nat) : List SRec := (S.drop a).take (b - a)
theorem seg_cons (S : List SRec) (a b : Nat) (h : a < b) (hb : b ≤ S.length) : seg S a b = S.getD a SRec.zero :: seg S (a + 1) b := by
  unfold seg
  have ha : a < S.length := by omega
  rw [List.drop_eq_getElem_cons ha, show b - a = (b - (a + 1)) + 1 by omega, List.take_succ_cons]
  simp [ha]
theorem seg_nil (S : List SRec) (a b : Nat) (h : b ≤ a) : seg S a b = [] := by
  unfold seg
  rw [show b - a = 0 by omega, List.take_zero]
theorem merge_left (S : List SRec) (i mid j hi : Nat) (h1 : i < mid) (hm : mid ≤ S.length) (hh : hi ≤ S.length) (h : hi ≤ j ∨ recCmp (S.getD i SRec.zero) (S.getD j SRec.zero) ≤ 0) :
    List.merge (seg S i mid) (seg S j hi) rle = S.getD i SRec.zero :: List.merge (seg S (i + 1) mid) (seg S j hi) rle := by
  rw [seg_cons S i mid h1 hm]
  by_cases hj : hi ≤ j
  · rw [seg_nil S j hi hj, List.merge_right, List.merge_right]
  · rw [seg_cons S j hi (by omega) hh, List.cons_merge_cons, if_pos ((rle_iff _ _).2 (by omega))]
theorem merge_right' (S : List SRec) (i mid j hi : Nat) (h1 : j < hi) (hm : mid ≤ S.length) (hh : hi ≤ S.length) (h : ¬ (i < mid ∧ recCmp (S.getD i SRec.zero) (S.getD j SRec.zero) ≤ 0)) :
    List.merge (seg S i mid) (seg S j hi) rle = S.getD j SRec.zero :: List.merge (seg S i mid) (seg S (j + 1) hi) rle := by
  rw [seg_cons S j hi h1 hh]
  by_cases hi' : i < mid
  · rw [seg_cons S i mid hi' hm, List.cons_merge_cons, if_neg (by rw [rle_iff]; exact fun q => h ⟨hi', q⟩)]
  · rw [seg_nil S i mid (by omega), List.nil_merge, List.nil_merge]
theorem take_set_snoc (D : List SRec) (k : Nat) (c : SRec) (h : k < D.length) : (D.set k c).take (k + 1) = D.take k ++ [c] := by
  rw [List.take_add_one]
  congr 1
  · rw [List.take_set_of_le (Nat.le_refl _)]
  · simp [h]
theorem pass_step (F W l mid hi : Nat) (S : List SRec) (hl : l < S.length) (hm : mid = min (l + W) S.length) (hh : hi = min (l + 2 * W) S.length) :
    pass (F + 1) W (S.drop l) = List.merge (seg S l mid) (seg S mid hi) rle ++ pass F W (S.drop (l + 2 * W)) := by
  rw [pass, if_neg (by intro e; have := congrArg List.length e; simp at this; omega)]
  congr 1
  · congr 1
    · unfold seg
      apply List.take_eq_take_iff.2
      simp; omega
    · unfold seg
      rw [List.drop_drop]
      by_cases hq : l + W ≤ S.length
      · rw [show mid = l + W by omega]
        apply List.take_eq_take_iff.2
        simp; omega
      · rw [List.drop_eq_nil_of_le (by omega), List.drop_eq_nil_of_le (by omega)]; simp
  · rw [List.drop_drop]
theorem pass_nil (F W : Nat) : pass F W [] = [] := by cases F <;> simp [pass]
end Go.Proofs.Qxb6616641a
