import Derived.Test.Qxb6616641aSaveYes
namespace Go.Proofs.Qxb6616641a
open Go.RowKit
set_option linter.unusedVariables false
attribute [local go_sem ↓] Go.wp_at_zero Go.wp_at_succ
attribute [local go_sem] alloc_drewN setCell_drewN

theorem keyOf_any (s p : Int) (w : World) : Calls Try.prog 22 #[.int .u8 s, .int .i64 p] w fun e w' => e = .returned (.int .i64 (keyV s p)) ∧ w' = w := by
  by_cases h : s = 1
  · have h1 : (s == 1) = true := by simp [h]
    have h2 : keyV s p = wrap64 (-p) := by simp [keyV, h]
    rw [h2]; clear h h2
    go_enter Try.func22, Try.ntmps22
    go_wp2
    go_ret
    exact ⟨rfl, rfl⟩
  · have h1 : (s == 1) = false := by simp [h]
    have h2 : keyV s p = p := by simp [keyV, h]
    rw [h2]; clear h h2
    go_enter Try.func22, Try.ntmps22
    go_wp2
    go_ret
    exact ⟨rfl, rfl⟩

theorem keyV_i64 (s p : Int) (h : I64 p) : I64 (keyV s p) := by
  obtain ⟨h1, h2⟩ := h
  unfold keyV I64 wrap64
  split <;> omega

theorem lt_two (w : World) (a b : Obj) {k : Nat} (h : k ≤ w.heap.size + 1) : k < ((w.alloc a).alloc b).drew.heap.size := by
  show k < ((w.heap.push a).push b).size
  simp; omega

/-- Must the capture still keep the order's image? -/
def mustB (seq n rd : Int) (c : Bool) (ls lk lt sd price stamp saved : Int) : Bool :=
  if seq < stamp then false else if saved = n then false else if rd = n then (if c then decide (0 < cmpPos sd (keyV sd price) stamp ls lk lt) else false) else true

/-- The cases of 'mustB', as the walks want them. -/
theorem mustB_cases (seq n rd : Int) (c : Bool) (ls lk lt sd price stamp saved : Int) :
    (decide (seq < stamp) = true ∧ mustB seq n rd c ls lk lt sd price stamp saved = false) ∨
    (decide (seq < stamp) = false ∧ (saved == n) = true ∧ mustB seq n rd c ls lk lt sd price stamp saved = false) ∨
    (decide (seq < stamp) = false ∧ (saved == n) = false ∧ (rd == n) = true ∧ c = false ∧ mustB seq n rd c ls lk lt sd price stamp saved = false) ∨
    (decide (seq < stamp) = false ∧ (saved == n) = false ∧ (rd == n) = true ∧ c = true ∧ decide (cmpPos sd (keyV sd price) stamp ls lk lt ≤ 0) = true ∧ mustB seq n rd c ls lk lt sd price stamp saved = false) ∨
    (decide (seq < stamp) = false ∧ (saved == n) = false ∧ (rd == n) = true ∧ c = true ∧ decide (cmpPos sd (keyV sd price) stamp ls lk lt ≤ 0) = false ∧ mustB seq n rd c ls lk lt sd price stamp saved = true) ∨
    (decide (seq < stamp) = false ∧ (saved == n) = false ∧ (rd == n) = false ∧ mustB seq n rd c ls lk lt sd price stamp saved = true) := by
  unfold mustB
  by_cases h1 : seq < stamp
  · simp [h1]
  · by_cases h2 : saved = n
    · simp [h1, h2]
    · by_cases h3 : rd = n
      · cases c
        · simp [h1, h2, h3]
        · by_cases h4 : cmpPos sd (keyV sd price) stamp ls lk lt ≤ 0
          · have h5 : ¬ 0 < cmpPos sd (keyV sd price) stamp ls lk lt := by omega
            simp [h1, h2, h3, h4]
          · have h5 : 0 < cmpPos sd (keyV sd price) stamp ls lk lt := by omega
            simp [h1, h2, h3, h5]
      · simp [h1, h2, h3]

set_option maxRecDepth 100000 in
set_option maxHeartbeats 2000000 in
theorem mustSave_any (seq n rd : Int) (c : Bool) (ls lk lt id sd price rem stamp saved : Int) (w : World) (hp : I64 price) (ht : I64 stamp) (hlk : I64 lk) (hlt : I64 lt) :
    Calls Try.prog 21 #[.int .i64 seq, .int .u64 n, .int .u64 rd, .bool c, .agg #[.int .u8 ls, .int .i64 lk, .int .i64 lt], .agg #[.int .i64 id, .int .u8 sd, .int .i64 price, .int .i64 rem, .int .i64 stamp, .int .u64 saved]] w
      fun e w' => e = .returned (.bool (mustB seq n rd c ls lk lt sd price stamp saved)) ∧ Below w.heap.size w w' := by
  have hk := keyV_i64 sd price hp
  rcases mustB_cases seq n rd c ls lk lt sd price stamp saved with ⟨h1, hm⟩ | ⟨h1, h2, hm⟩ | ⟨h1, h2, h3, rfl, hm⟩ | ⟨h1, h2, h3, rfl, h4, hm⟩ | ⟨h1, h2, h3, rfl, h4, hm⟩ | ⟨h1, h2, h3, hm⟩
  · rw [hm]; clear hm
    go_enter Try.func21, Try.ntmps21
    go_wp2
    go_ret
    exact ⟨rfl, bel_two _ _ _⟩
  · rw [hm]; clear hm
    go_enter Try.func21, Try.ntmps21
    go_wp2
    go_ret
    exact ⟨rfl, bel_two _ _ _⟩
  · rw [hm]; clear hm
    go_enter Try.func21, Try.ntmps21
    go_wp2
    go_ret
    exact ⟨rfl, bel_two _ _ _⟩
  · rw [hm]; clear hm
    go_enter Try.func21, Try.ntmps21
    go_wp2_with fail
    go_region_held3 (fun x => x.cell? ⟨w.heap.size, 0, none⟩ = some (.int .u8 ls) ∧ x.cell? ⟨w.heap.size, 1, none⟩ = some (.int .i64 lk) ∧ x.cell? ⟨w.heap.size, 2, none⟩ = some (.int .i64 lt) ∧ x.cell? ⟨w.heap.size + 1, 1, none⟩ = some (.int .u8 sd) ∧ x.cell? ⟨w.heap.size + 1, 2, none⟩ = some (.int .i64 price) ∧ x.cell? ⟨w.heap.size + 1, 4, none⟩ = some (.int .i64 stamp))
      (go_keep)
      (first
        | (go_at_call 22; refine (keyOf_any _ _ _).mono ?_; rintro e w' ⟨rfl, rfl⟩)
        | (go_at_call 11; refine (cmpPosModel_any _ _ _ _ _ _ hk ht hlk hlt _).mono ?_; rintro e w' ⟨rfl, hbel⟩; have hw0 := fun o => hbel.cell (p := ⟨w.heap.size, o, none⟩) (lt_two _ _ _ (Nat.le_succ _)); have hw1 := fun o => hbel.cell (p := ⟨w.heap.size + 1, o, none⟩) (lt_two _ _ _ (Nat.le_refl _))))
    go_wp2
    go_ret
    exact ⟨rfl, (bel_two _ _ _).drew.trans (hbel.mono (Nat.le_of_lt (lt_two _ _ _ (Nat.le_succ _))))⟩
  · rw [hm]; clear hm
    go_enter Try.func21, Try.ntmps21
    go_wp2_with fail
    go_region_held3 (fun x => x.cell? ⟨w.heap.size, 0, none⟩ = some (.int .u8 ls) ∧ x.cell? ⟨w.heap.size, 1, none⟩ = some (.int .i64 lk) ∧ x.cell? ⟨w.heap.size, 2, none⟩ = some (.int .i64 lt) ∧ x.cell? ⟨w.heap.size + 1, 1, none⟩ = some (.int .u8 sd) ∧ x.cell? ⟨w.heap.size + 1, 2, none⟩ = some (.int .i64 price) ∧ x.cell? ⟨w.heap.size + 1, 4, none⟩ = some (.int .i64 stamp))
      (go_keep)
      (first
        | (go_at_call 22; refine (keyOf_any _ _ _).mono ?_; rintro e w' ⟨rfl, rfl⟩)
        | (go_at_call 11; refine (cmpPosModel_any _ _ _ _ _ _ hk ht hlk hlt _).mono ?_; rintro e w' ⟨rfl, hbel⟩; have hw0 := fun o => hbel.cell (p := ⟨w.heap.size, o, none⟩) (lt_two _ _ _ (Nat.le_succ _)); have hw1 := fun o => hbel.cell (p := ⟨w.heap.size + 1, o, none⟩) (lt_two _ _ _ (Nat.le_refl _))))
    go_wp2
    go_ret
    exact ⟨rfl, (bel_two _ _ _).drew.trans (hbel.mono (Nat.le_of_lt (lt_two _ _ _ (Nat.le_succ _))))⟩
  · rw [hm]; clear hm
    go_enter Try.func21, Try.ntmps21
    go_wp2
    go_ret
    exact ⟨rfl, bel_two _ _ _⟩

set_option maxRecDepth 100000 in
theorem newBook_at (s : ByteArray) (born rd : Int) (w : World) :
    Calls Try.prog 13 #[.string s, .int .i64 born, .int .u64 rd] w fun e w' => e = .returned (.pointer (some ⟨w.heap.size, 0, none⟩)) ∧ BookAt w' w.heap.size rd (.slice none 0 0) ∧ Below w.heap.size w w' ∧ w'.heap.size = w.heap.size + 1 := by
  refine (newBook_any s born rd w).mono ?_
  rintro e w' ⟨rfl, rfl⟩
  refine ⟨rfl, ⟨?_, ?_, ?_, ?_, ?_⟩, (Below.refl _ _).alloc (Nat.le_refl _) _, by simp⟩
  · simp [bookCells]
  · simp [bookCells]
  · simp [bookCells]
  · simp [bookCells]
  · exact frozen_of_row _ _ _ (bookCells s born rd) 92 (heap_alloc_new w _)

set_option maxRecDepth 100000 in
set_option maxHeartbeats 1000000 in
theorem newCapture_at (seq n : Int) (cur : Option Addr) (ls lk lt : Int) (w : World) :
    Calls Try.prog 19 #[.int .i64 seq, .int .u64 n, .pointer cur, .int .u8 ls, .int .i64 lk, .int .i64 lt] w fun e w' => e = .returned (.pointer (some ⟨w.heap.size, 0, none⟩)) ∧ CapAt w' w.heap.size seq n cur ls lk lt ∧ Below w.heap.size w w' ∧ w'.heap.size = w.heap.size + 1 := by
  go_enter Try.func19, Try.ntmps19
  go_wp2
  go_ret
  refine ⟨rfl, ⟨?_, ?_, ?_, ?_, ?_, ?_⟩, (Below.refl _ _).alloc (Nat.le_refl _) _, by simp⟩ <;> simp

set_option maxRecDepth 100000 in
set_option maxHeartbeats 1000000 in
theorem newOrder_at (id sd price rem stamp saved : Int) (w : World) :
    Calls Try.prog 20 #[.int .i64 id, .int .u8 sd, .int .i64 price, .int .i64 rem, .int .i64 stamp, .int .u64 saved] w fun e w' => e = .returned (.pointer (some ⟨w.heap.size + 1, 0, none⟩)) ∧ OrdAt w' (w.heap.size + 1) w.heap.size id sd price rem stamp saved ∧ Below w.heap.size w w' ∧ w'.heap.size = w.heap.size + 2 := by
  go_enter Try.func20, Try.ntmps20
  go_wp2
  go_ret
  refine ⟨rfl, ⟨?_, ?_, ?_, ?_, ?_, ?_, ?_, frozen_of_row _ _ _ _ 111 (heap_alloc2_new w _ _)⟩, bel_two _ _ _, by simp⟩ <;> simp

theorem orderSaved_any (o l : Nat) (id sd price rem stamp saved : Int) (w : World) (hO : OrdAt w o l id sd price rem stamp saved) :
    Calls Try.prog 24 #[.pointer (some ⟨o, 0, none⟩)] w fun e w' => e = .returned (.int .u64 saved) ∧ w' = w := by
  have h4 := hO.saved
  clear hO
  go_enter Try.func24, Try.ntmps24
  go_wp2
  go_ret
  exact ⟨rfl, rfl⟩

theorem savedLen_any (b : Nat) (a : Option Addr) (len cap : Nat) (w : World) (h : w.cell? ⟨b, 32, none⟩ = some (.slice a len cap)) :
    Calls Try.prog 25 #[.pointer (some ⟨b, 0, none⟩)] w fun e w' => e = .returned (.int .i64 len) ∧ w' = w := by
  go_enter Try.func25, Try.ntmps25
  go_wp2
  go_ret
  exact ⟨rfl, rfl⟩

set_option maxRecDepth 100000 in
set_option maxHeartbeats 1000000 in
theorem savedAt_any (b i base g cap : Nat) (rs : List SRec) (w : World) (h : w.cell? ⟨b, 32, none⟩ = some (.slice (some ⟨g, 0, none⟩) rs.length cap))
    (hown : w.ownsRow base 114 6 (.slice (some ⟨g, 0, none⟩) rs.length cap) rs.length (flat rs)) (hi : i < rs.length) :
    Calls Try.prog 26 #[.pointer (some ⟨b, 0, none⟩), .int .i64 i] w fun e w' => e = .returned (.tuple #[.int .u8 (rs.getD i SRec.zero).side, .int .i64 (rs.getD i SRec.zero).key, .int .i64 (rs.getD i SRec.zero).stamp, .int .i64 (rs.getD i SRec.zero).price, .int .i64 (rs.getD i SRec.zero).id, .int .i64 (rs.getD i SRec.zero).rem]) ∧ Below w.heap.size w w' := by
  obtain ⟨a, ha⟩ : ∃ a, a = rs.getD i SRec.zero := ⟨_, rfl⟩
  have rk : ∀ j, j < 6 → w.cell? ⟨g, i * 6 + j, none⟩ = a.cells[j]? := fun j hj => by
    rw [hown.cellAt _ (by omega), flat_at rs i j hi hj, ha]
  rw [← ha]
  have k0 := rk 0 (by omega)
  have k1 := rk 1 (by omega)
  have k2 := rk 2 (by omega)
  have k3 := rk 3 (by omega)
  have k4 := rk 4 (by omega)
  have k5 := rk 5 (by omega)
  simp [SRec.cells] at k0 k1 k2 k3 k4 k5
  have g1 : (0 : Int) ≤ i := by omega
  have g2 : (i : Int) < rs.length := by omega
  clear rk ha hown
  go_enter Try.func26, Try.ntmps26
  go_wp2
  go_quiet (fail)
  go_wp2
  exact bodyPost_ret (v := .tuple #[.int .u8 a.side, .int .i64 a.key, .int .i64 a.stamp, .int .i64 a.price, .int .i64 a.id, .int .i64 a.rem]) (by simp [results, Try.results26, go_sem]) rfl ⟨rfl, bel_one _ _ _⟩

theorem hidP {p : Prop} (h : p) : Hid p := h

/-- The pointer that the capture holds. -/
def curOf (c : Bool) (b : Nat) : Option Addr := if c then some ⟨b, 0, none⟩ else none

theorem save_no (c b o l : Nat) (seq n : Int) (cc : Bool) (ls lk lt id sd price rem stamp saved rd : Int) (v : Value) (w : World)
    (hc : CapAt w c seq n (curOf cc b) ls lk lt) (hO : OrdAt w o l id sd price rem stamp saved) (hb : BookAt w b rd v) (hs : sd = 1 ∨ sd = 2) (hm : mustB seq n rd cc ls lk lt sd price stamp saved = false) :
    Calls Try.prog 35 #[.pointer (some ⟨c, 0, none⟩), .pointer (some ⟨b, 0, none⟩), .pointer (some ⟨o, 0, none⟩)] w fun e w' => e = .returned (.tuple #[]) ∧ Below w.heap.size w w' := by
  rcases mustB_cases seq n rd cc ls lk lt sd price stamp saved with ⟨h1, _⟩ | ⟨h1, h2, _⟩ | ⟨h1, h2, h3, rfl, _⟩ | ⟨h1, h2, h3, rfl, h4, _⟩ | ⟨h1, h2, h3, rfl, h4, h5⟩ | ⟨h1, h2, h3, h5⟩
  · exact save_late c b o l seq n _ ls lk lt id sd price rem stamp saved rd v w hc hO hb (by simpa using h1)
  · exact save_marked c b o l seq n _ ls lk lt id sd price rem stamp saved rd v w hc hO hb h1 h2
  · exact save_readNil c b o l seq n ls lk lt id sd price rem stamp saved rd v w hc hO hb hs h1 h2 h3
  · exact save_readCur c b o l seq n ls lk lt id sd price rem stamp saved rd v w hc hO hb hs h1 h2 h3 h4
  · rw [h5] at hm; cases hm
  · rw [h5] at hm; cases hm

theorem zzsave_no (c b o l : Nat) (seq n : Int) (cc : Bool) (ls lk lt id sd price rem stamp saved rd : Int) (v : Value) (w : World)
    (hc : CapAt w c seq n (curOf cc b) ls lk lt) (hO : OrdAt w o l id sd price rem stamp saved) (hb : BookAt w b rd v) (hs : sd = 1 ∨ sd = 2) (hm : mustB seq n rd cc ls lk lt sd price stamp saved = false) :
    Calls Try.prog 23 #[.pointer (some ⟨c, 0, none⟩), .pointer (some ⟨b, 0, none⟩), .pointer (some ⟨o, 0, none⟩)] w fun e w' => e = .returned (.tuple #[]) ∧ Below w.heap.size w w' := by
  have H := save_no c b o l seq n cc ls lk lt id sd price rem stamp saved rd v w hc hO hb hs hm
  have HH := hidP H
  clear hc hO hb hs hm H
  go_enter Try.func23, Try.ntmps23
  go_wp2_with fail
  refine HH.out.mono ?_
  rintro e w' ⟨rfl, h⟩
  go_wp2_with fail
  go_end0
  exact ⟨rfl, h⟩

theorem zzsave_yes (c b o l base lo : Nat) (seq n : Int) (cc : Bool) (ls lk lt id sd price rem stamp saved rd : Int) (v : Value) (rs : List SRec) (A : Addr → Prop) (w : World)
    (hc : CapAt w c seq n (curOf cc b) ls lk lt) (hO : OrdAt w o l id sd price rem stamp saved) (hb : BookAt w b rd v) (hs : sd = 1 ∨ sd = 2) (hm : mustB seq n rd cc ls lk lt sd price stamp saved = true)
    (hown : w.ownsRow base 114 6 v rs.length (flat rs)) (hn : rs.length ≤ 1048576) (hbase : base ≤ w.heap.size) (lb : b < base) (lob : o < base) (llb : l < base) (lo1 : lo ≤ b) (lo2 : lo ≤ o) (hA1 : A ⟨b, 32, none⟩) (hA2 : A ⟨o, 4, none⟩) :
    Calls Try.prog 23 #[.pointer (some ⟨c, 0, none⟩), .pointer (some ⟨b, 0, none⟩), .pointer (some ⟨o, 0, none⟩)] w fun e w' => e = .returned (.tuple #[]) ∧
      ∃ v', w'.cell? ⟨b, 32, none⟩ = some v' ∧ w'.ownsRow base 114 6 v' (rs.length + 1) (flat (hpush rs ⟨sd, keyV sd price, stamp, price, id, rem⟩)) ∧ w'.cell? ⟨o, 4, none⟩ = some (.int .u64 n) ∧ KeepS base lo A w w' := by
  have H : decide (seq < stamp) = false ∧ (saved == n) = false ∧ ((rd == n) = false ∨ ((rd == n) = true ∧ curOf cc b = some ⟨b, 0, none⟩ ∧ decide (cmpPos sd (keyV sd price) stamp ls lk lt ≤ 0) = false)) := by
    rcases mustB_cases seq n rd cc ls lk lt sd price stamp saved with ⟨h1, h5⟩ | ⟨h1, h2, h5⟩ | ⟨h1, h2, h3, rfl, h5⟩ | ⟨h1, h2, h3, rfl, h4, h5⟩ | ⟨h1, h2, h3, rfl, h4, h5⟩ | ⟨h1, h2, h3, h5⟩
    · rw [h5] at hm; cases hm
    · rw [h5] at hm; cases hm
    · rw [h5] at hm; cases hm
    · rw [h5] at hm; cases hm
    · exact ⟨h1, h2, Or.inr ⟨h3, rfl, h4⟩⟩
    · exact ⟨h1, h2, Or.inl h3⟩
  have H2 := save_yes c b o l base lo seq n _ ls lk lt id sd price rem stamp saved rd v rs A w hc hO hb hs H.1 H.2.1 H.2.2 hown hn hbase lb lob llb lo1 lo2 hA1 hA2
  have HH := hidP H2
  clear hc hO hb hs hm H H2 hown hA1 hA2
  go_enter Try.func23, Try.ntmps23
  go_wp2_with fail
  refine HH.out.mono ?_
  rintro e w' ⟨rfl, h⟩
  go_wp2_with fail
  go_end0
  exact ⟨rfl, h⟩
end Go.Proofs.Qxb6616641a
