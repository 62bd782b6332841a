import Derived.Laws.BitsAllLaws
import Derived.WalkKit
namespace Go.Proofs.Qxb6616641a
open Go.RowKit

/-- -1, 0 or 1, as a is below, equal to or above b. -/
def cmpI (a b : Int) : Int := if a < b then -1 else if b < a then 1 else 0

/-- The first place where two lists part decides. -/
def lexL : List Int → List Int → Int
  | x :: xs, y :: ys => if x < y then -1 else if y < x then 1 else lexL xs ys
  | _, _ => 0

/-- Side, then key, then stamp. -/
def cmpPos (s k t s' k' t' : Int) : Int :=
  if s < s' then -1 else if s' < s then 1 else if k < k' then -1 else if k' < k then 1 else cmpI t t'

/-- An int64 as an uint64 whose sign bit is turned. -/
def flipS (k : Int) : Int := bits BinOp.xor IntKind.u64 (IntKind.u64.wrap k) 9223372036854775808

def encL (s K T : Int) : List Int := [s, K / 72057594037927936 % 256, K / 281474976710656 % 256, K / 1099511627776 % 256, K / 4294967296 % 256, K / 16777216 % 256, K / 65536 % 256, K / 256 % 256, K % 256,
  T / 72057594037927936 % 256, T / 281474976710656 % 256, T / 1099511627776 % 256, T / 4294967296 % 256, T / 16777216 % 256, T / 65536 % 256, T / 256 % 256, T % 256]

theorem xor_top (x : Nat) (h : x < 18446744073709551616) : x ^^^ 9223372036854775808 = (x + 9223372036854775808) % 18446744073709551616 := by
  have e63 : (9223372036854775808 : Nat) = 2 ^ 63 := by decide
  have hm : (x ^^^ 9223372036854775808) % 9223372036854775808 = x % 9223372036854775808 := by
    rw [e63, Nat.xor_mod_two_pow]; simp
  have hd : (x ^^^ 9223372036854775808) / 9223372036854775808 = (x / 9223372036854775808) ^^^ 1 := by
    rw [e63, Nat.xor_div_two_pow]
  have hq : x / 9223372036854775808 = 0 ∨ x / 9223372036854775808 = 1 := by omega
  have hr := Nat.div_add_mod (x ^^^ 9223372036854775808) 9223372036854775808
  rw [hm, hd] at hr
  rcases hq with hq | hq
  · rw [hq] at hr; simp at hr; omega
  · rw [hq] at hr; simp at hr; omega

theorem flipS_eq (k : Int) (h1 : -9223372036854775808 ≤ k) (h2 : k ≤ 9223372036854775807) : flipS k = k + 9223372036854775808 := by
  unfold flipS
  have hw : IntKind.u64.wrap k = k % 18446744073709551616 := by
    simp [IntKind.wrap, IntKind.signed, IntKind.bits]
  rw [hw, u64_xor _ _ (by omega) (by omega) (by decide) (by decide)]
  have e : (9223372036854775808 : Int).toNat = 9223372036854775808 := by decide
  rw [e, xor_top _ (by omega)]
  omega

theorem lex8 (K K' : Int) (h : 0 ≤ K) (hu : K < 18446744073709551616) (h' : 0 ≤ K') (hu' : K' < 18446744073709551616) (r r' : List Int) :
    lexL ([K / 72057594037927936 % 256, K / 281474976710656 % 256, K / 1099511627776 % 256, K / 4294967296 % 256, K / 16777216 % 256, K / 65536 % 256, K / 256 % 256, K % 256] ++ r)
      ([K' / 72057594037927936 % 256, K' / 281474976710656 % 256, K' / 1099511627776 % 256, K' / 4294967296 % 256, K' / 16777216 % 256, K' / 65536 % 256, K' / 256 % 256, K' % 256] ++ r')
      = if K < K' then -1 else if K' < K then 1 else lexL r r' := by
  obtain ⟨d0, e0⟩ : ∃ d, d = K / 72057594037927936 % 256 := ⟨_, rfl⟩
  obtain ⟨d1, e1⟩ : ∃ d, d = K / 281474976710656 % 256 := ⟨_, rfl⟩
  obtain ⟨d2, e2⟩ : ∃ d, d = K / 1099511627776 % 256 := ⟨_, rfl⟩
  obtain ⟨d3, e3⟩ : ∃ d, d = K / 4294967296 % 256 := ⟨_, rfl⟩
  obtain ⟨d4, e4⟩ : ∃ d, d = K / 16777216 % 256 := ⟨_, rfl⟩
  obtain ⟨d5, e5⟩ : ∃ d, d = K / 65536 % 256 := ⟨_, rfl⟩
  obtain ⟨d6, e6⟩ : ∃ d, d = K / 256 % 256 := ⟨_, rfl⟩
  obtain ⟨d7, e7⟩ : ∃ d, d = K % 256 := ⟨_, rfl⟩
  obtain ⟨c0, f0⟩ : ∃ d, d = K' / 72057594037927936 % 256 := ⟨_, rfl⟩
  obtain ⟨c1, f1⟩ : ∃ d, d = K' / 281474976710656 % 256 := ⟨_, rfl⟩
  obtain ⟨c2, f2⟩ : ∃ d, d = K' / 1099511627776 % 256 := ⟨_, rfl⟩
  obtain ⟨c3, f3⟩ : ∃ d, d = K' / 4294967296 % 256 := ⟨_, rfl⟩
  obtain ⟨c4, f4⟩ : ∃ d, d = K' / 16777216 % 256 := ⟨_, rfl⟩
  obtain ⟨c5, f5⟩ : ∃ d, d = K' / 65536 % 256 := ⟨_, rfl⟩
  obtain ⟨c6, f6⟩ : ∃ d, d = K' / 256 % 256 := ⟨_, rfl⟩
  obtain ⟨c7, f7⟩ : ∃ d, d = K' % 256 := ⟨_, rfl⟩
  have hK : K = d0 * 72057594037927936 + d1 * 281474976710656 + d2 * 1099511627776 + d3 * 4294967296 + d4 * 16777216 + d5 * 65536 + d6 * 256 + d7 := by omega
  have hK' : K' = c0 * 72057594037927936 + c1 * 281474976710656 + c2 * 1099511627776 + c3 * 4294967296 + c4 * 16777216 + c5 * 65536 + c6 * 256 + c7 := by omega
  have b0 : 0 ≤ d0 ∧ d0 < 256 := by omega
  have b1 : 0 ≤ d1 ∧ d1 < 256 := by omega
  have b2 : 0 ≤ d2 ∧ d2 < 256 := by omega
  have b3 : 0 ≤ d3 ∧ d3 < 256 := by omega
  have b4 : 0 ≤ d4 ∧ d4 < 256 := by omega
  have b5 : 0 ≤ d5 ∧ d5 < 256 := by omega
  have b6 : 0 ≤ d6 ∧ d6 < 256 := by omega
  have b7 : 0 ≤ d7 ∧ d7 < 256 := by omega
  have g0 : 0 ≤ c0 ∧ c0 < 256 := by omega
  have g1 : 0 ≤ c1 ∧ c1 < 256 := by omega
  have g2 : 0 ≤ c2 ∧ c2 < 256 := by omega
  have g3 : 0 ≤ c3 ∧ c3 < 256 := by omega
  have g4 : 0 ≤ c4 ∧ c4 < 256 := by omega
  have g5 : 0 ≤ c5 ∧ c5 < 256 := by omega
  have g6 : 0 ≤ c6 ∧ c6 < 256 := by omega
  have g7 : 0 ≤ c7 ∧ c7 < 256 := by omega
  rw [← e0, ← e1, ← e2, ← e3, ← e4, ← e5, ← e6, ← e7, ← f0, ← f1, ← f2, ← f3, ← f4, ← f5, ← f6, ← f7]
  clear e0 e1 e2 e3 e4 e5 e6 e7 f0 f1 f2 f3 f4 f5 f6 f7
  simp only [List.cons_append, List.nil_append, lexL]
  by_cases p0 : d0 < c0
  · rw [if_pos p0, if_pos (by omega)]
  rw [if_neg p0]
  by_cases q0 : c0 < d0
  · rw [if_pos q0, if_neg (by omega), if_pos (by omega)]
  rw [if_neg q0]
  by_cases p1 : d1 < c1
  · rw [if_pos p1, if_pos (by omega)]
  rw [if_neg p1]
  by_cases q1 : c1 < d1
  · rw [if_pos q1, if_neg (by omega), if_pos (by omega)]
  rw [if_neg q1]
  by_cases p2 : d2 < c2
  · rw [if_pos p2, if_pos (by omega)]
  rw [if_neg p2]
  by_cases q2 : c2 < d2
  · rw [if_pos q2, if_neg (by omega), if_pos (by omega)]
  rw [if_neg q2]
  by_cases p3 : d3 < c3
  · rw [if_pos p3, if_pos (by omega)]
  rw [if_neg p3]
  by_cases q3 : c3 < d3
  · rw [if_pos q3, if_neg (by omega), if_pos (by omega)]
  rw [if_neg q3]
  by_cases p4 : d4 < c4
  · rw [if_pos p4, if_pos (by omega)]
  rw [if_neg p4]
  by_cases q4 : c4 < d4
  · rw [if_pos q4, if_neg (by omega), if_pos (by omega)]
  rw [if_neg q4]
  by_cases p5 : d5 < c5
  · rw [if_pos p5, if_pos (by omega)]
  rw [if_neg p5]
  by_cases q5 : c5 < d5
  · rw [if_pos q5, if_neg (by omega), if_pos (by omega)]
  rw [if_neg q5]
  by_cases p6 : d6 < c6
  · rw [if_pos p6, if_pos (by omega)]
  rw [if_neg p6]
  by_cases q6 : c6 < d6
  · rw [if_pos q6, if_neg (by omega), if_pos (by omega)]
  rw [if_neg q6]
  by_cases p7 : d7 < c7
  · rw [if_pos p7, if_pos (by omega)]
  rw [if_neg p7]
  by_cases q7 : c7 < d7
  · rw [if_pos q7, if_neg (by omega), if_pos (by omega)]
  rw [if_neg q7, if_neg (by omega), if_neg (by omega)]

/-- An int64. -/
def I64 (x : Int) : Prop := -9223372036854775808 ≤ x ∧ x ≤ 9223372036854775807

theorem lex_enc (s k t s' k' t' : Int) (hk : I64 k) (ht : I64 t) (hk' : I64 k') (ht' : I64 t') :
    lexL (encL s (flipS k) (flipS t)) (encL s' (flipS k') (flipS t')) = cmpPos s k t s' k' t' := by
  obtain ⟨k1, k2⟩ := hk; obtain ⟨t1, t2⟩ := ht; obtain ⟨k1', k2'⟩ := hk'; obtain ⟨t1', t2'⟩ := ht'
  rw [flipS_eq k k1 k2, flipS_eq t t1 t2, flipS_eq k' k1' k2', flipS_eq t' t1' t2']
  have a := lex8 (k + 9223372036854775808) (k' + 9223372036854775808) (by omega) (by omega) (by omega) (by omega)
  have b := lex8 (t + 9223372036854775808) (t' + 9223372036854775808) (by omega) (by omega) (by omega) (by omega) [] []
  have c := a ([(t + 9223372036854775808) / 72057594037927936 % 256, (t + 9223372036854775808) / 281474976710656 % 256, (t + 9223372036854775808) / 1099511627776 % 256, (t + 9223372036854775808) / 4294967296 % 256, (t + 9223372036854775808) / 16777216 % 256, (t + 9223372036854775808) / 65536 % 256, (t + 9223372036854775808) / 256 % 256, (t + 9223372036854775808) % 256] ++ [])
    ([(t' + 9223372036854775808) / 72057594037927936 % 256, (t' + 9223372036854775808) / 281474976710656 % 256, (t' + 9223372036854775808) / 1099511627776 % 256, (t' + 9223372036854775808) / 4294967296 % 256, (t' + 9223372036854775808) / 16777216 % 256, (t' + 9223372036854775808) / 65536 % 256, (t' + 9223372036854775808) / 256 % 256, (t' + 9223372036854775808) % 256] ++ [])
  rw [b] at c
  show (if s < s' then -1 else if s' < s then 1 else lexL _ _) = _
  unfold cmpPos
  refine ite_congr rfl (fun _ => rfl) fun _ => ite_congr rfl (fun _ => rfl) fun _ => ?_
  refine c.trans ?_
  refine ite_congr (by simp) (fun _ => rfl) fun _ => ite_congr (by simp) (fun _ => rfl) fun _ => ?_
  simp only [lexL, cmpI]
  refine ite_congr (by simp) (fun _ => rfl) fun _ => ite_congr (by simp) (fun _ => rfl) fun _ => rfl

theorem lexL_lt (k : Nat) (xs ys : List Int) (h : ∀ j, j < k → xs[j]?.getD 0 = ys[j]?.getD 0) (hx : k < xs.length) (hy : k < ys.length) (hl : xs[k]?.getD 0 < ys[k]?.getD 0) : lexL xs ys = -1 := by
  induction k generalizing xs ys with
  | zero =>
    match xs, ys, hx, hy with
    | x :: xs, y :: ys, _, _ => simp at hl; simp [lexL, hl]
  | succ k ih =>
    match xs, ys, hx, hy with
    | x :: xs, y :: ys, hx, hy =>
      have h0 := h 0 (by omega)
      simp at h0
      have := ih xs ys (fun j hj => by simpa using h (j + 1) (by omega)) (by simpa using hx) (by simpa using hy) (by simpa using hl)
      simp [lexL, h0, this]

theorem lexL_gt (k : Nat) (xs ys : List Int) (h : ∀ j, j < k → xs[j]?.getD 0 = ys[j]?.getD 0) (hx : k < xs.length) (hy : k < ys.length) (hl : ys[k]?.getD 0 < xs[k]?.getD 0) : lexL xs ys = 1 := by
  induction k generalizing xs ys with
  | zero =>
    match xs, ys, hx, hy with
    | x :: xs, y :: ys, _, _ => simp at hl; simp [lexL, hl]; omega
  | succ k ih =>
    match xs, ys, hx, hy with
    | x :: xs, y :: ys, hx, hy =>
      have h0 := h 0 (by omega)
      simp at h0
      have := ih xs ys (fun j hj => by simpa using h (j + 1) (by omega)) (by simpa using hx) (by simpa using hy) (by simpa using hl)
      simp [lexL, h0, this]

theorem lexL_eq (xs ys : List Int) (h : ∀ j, j < xs.length → xs[j]?.getD 0 = ys[j]?.getD 0) (hl : xs.length = ys.length) : lexL xs ys = 0 := by
  induction xs generalizing ys with
  | nil => simp [lexL]
  | cons x xs ih =>
    match ys, hl with
    | y :: ys, hl =>
      have h0 := h 0 (by simp)
      simp at h0
      have := ih ys (fun j hj => by simpa using h (j + 1) (by simp; omega)) (by simpa using hl)
      simp [lexL, h0, this]

theorem cmpI_cases (a b : Int) : (a < b ∧ cmpI a b = -1) ∨ (¬ a < b ∧ b < a ∧ cmpI a b = 1) ∨ (¬ a < b ∧ ¬ b < a ∧ cmpI a b = 0) := by
  unfold cmpI
  by_cases h : a < b
  · simp [h]
  · by_cases h' : b < a
    · simp [h, h']
    · simp [h, h']

/-- The first number that is not 0. -/
def or3 (a b c : Int) : Int := if a ≠ 0 then a else if b ≠ 0 then b else c

theorem or3_cmp (s k t s' k' t' : Int) : or3 (cmpI s s') (cmpI k k') (cmpI t t') = cmpPos s k t s' k' t' := by
  unfold or3 cmpPos
  rcases cmpI_cases s s' with ⟨h, hc⟩ | ⟨h, h', hc⟩ | ⟨h, h', hc⟩
  · rw [hc, if_pos (by decide), if_pos h]
  · rw [hc, if_pos (by decide), if_neg h, if_pos h']
  · rw [hc, if_neg (by decide), if_neg h, if_neg h']
    rcases cmpI_cases k k' with ⟨g, gc⟩ | ⟨g, g', gc⟩ | ⟨g, g', gc⟩
    · rw [gc, if_pos (by decide), if_pos g]
    · rw [gc, if_pos (by decide), if_neg g, if_pos g']
    · rw [gc, if_neg (by decide), if_neg g, if_neg g']

end Go.Proofs.Qxb6616641a
