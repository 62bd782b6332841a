import Derived.Test.Qxb6616641aPush
namespace Go.Proofs.Qxb6616641a
open Go.RowKit
set_option linter.unusedVariables false
attribute [local go_sem ↓] Go.wp_at_zero Go.wp_at_succ
theorem alloc_drewN (w : World) (n : Nat) (o : Obj) : (w.drewN n).alloc o = (w.alloc o).drewN n := rfl
theorem setCell_drewN (w : World) (n : Nat) (a : Addr) (v : Value) : (w.drewN n).setCell a v = (w.setCell a v).drewN n := rfl
attribute [local go_sem] alloc_drewN setCell_drewN

/-- The cells of a capture that 'save' reads. -/
structure CapAt (w : World) (c : Nat) (seq n : Int) (cur : Option Addr) (ls lk lt : Int) : Prop where
  seq : w.cell? ⟨c, 0, none⟩ = some (.int .i64 seq)
  n : w.cell? ⟨c, 1, none⟩ = some (.int .u64 n)
  cur : w.cell? ⟨c, 6, none⟩ = some (.pointer cur)
  ls : w.cell? ⟨c, 7, none⟩ = some (.int .u8 ls)
  lk : w.cell? ⟨c, 8, none⟩ = some (.int .i64 lk)
  lt : w.cell? ⟨c, 9, none⟩ = some (.int .i64 lt)
/-- The cells of an order, and of its level. -/
structure OrdAt (w : World) (o l : Nat) (id sd price rem stamp saved : Int) : Prop where
  id : w.cell? ⟨o, 0, none⟩ = some (.int .i64 id)
  sd : w.cell? ⟨o, 1, none⟩ = some (.int .u8 sd)
  rem : w.cell? ⟨o, 2, none⟩ = some (.int .i64 rem)
  stamp : w.cell? ⟨o, 3, none⟩ = some (.int .i64 stamp)
  saved : w.cell? ⟨o, 4, none⟩ = some (.int .u64 saved)
  level : w.cell? ⟨o, 5, none⟩ = some (.pointer (some ⟨l, 0, none⟩))
  price : w.cell? ⟨l, 0, none⟩ = some (.int .i64 price)
  free : w.frozen? ⟨o, 4, none⟩ = false
/-- The cells of a book that 'save' reads. -/
structure BookAt (w : World) (b : Nat) (rd : Int) (v : Value) : Prop where
  buy : w.cell? ⟨b, 2, none⟩ = some (.int .u8 1)
  sell : w.cell? ⟨b, 11, none⟩ = some (.int .u8 2)
  read : w.cell? ⟨b, 31, none⟩ = some (.int .u64 rd)
  saved : w.cell? ⟨b, 32, none⟩ = some v
  free : w.frozen? ⟨b, 32, none⟩ = false

set_option maxRecDepth 100000 in
set_option maxHeartbeats 1000000 in
theorem save_late (c b o l : Nat) (seq n : Int) (cur : Option Addr) (ls lk lt id sd price rem stamp saved rd : Int) (v : Value) (w : World)
    (hc : CapAt w c seq n cur ls lk lt) (hO : OrdAt w o l id sd price rem stamp saved) (hb : BookAt w b rd v) (h : seq < stamp) :
    Calls Try.prog 35 #[.pointer (some ⟨c, 0, none⟩), .pointer (some ⟨b, 0, none⟩), .pointer (some ⟨o, 0, none⟩)] w fun e w' => e = .returned (.tuple #[]) ∧ Below w.heap.size w w' := by
  obtain ⟨c0, c1, c6, c7, c8, c9⟩ := hc
  obtain ⟨o0, o1, o2, o3, o4, o5, l0, ofr⟩ := hO
  obtain ⟨b2, b11, b31, b32, bfr⟩ := hb
  have hd : decide (seq < stamp) = true := by simpa using h
  go_enter Try.func35, Try.ntmps35
  go_wp2
  go_quiet (fail)
  go_wp2
  refine bodyPost_ret (results_none rfl _ _ _) rfl ?_
  exact ⟨rfl, bel_drewN (Below.refl _ _) _⟩

set_option maxRecDepth 100000 in
set_option maxHeartbeats 1000000 in
theorem save_marked (c b o l : Nat) (seq n : Int) (cur : Option Addr) (ls lk lt id sd price rem stamp saved rd : Int) (v : Value) (w : World)
    (hc : CapAt w c seq n cur ls lk lt) (hO : OrdAt w o l id sd price rem stamp saved) (hb : BookAt w b rd v) (h : decide (seq < stamp) = false) (h' : (saved == n) = true) :
    Calls Try.prog 35 #[.pointer (some ⟨c, 0, none⟩), .pointer (some ⟨b, 0, none⟩), .pointer (some ⟨o, 0, none⟩)] w fun e w' => e = .returned (.tuple #[]) ∧ Below w.heap.size w w' := by
  obtain ⟨c0, c1, c6, c7, c8, c9⟩ := hc
  obtain ⟨o0, o1, o2, o3, o4, o5, l0, ofr⟩ := hO
  obtain ⟨b2, b11, b31, b32, bfr⟩ := hb
  go_enter Try.func35, Try.ntmps35
  go_wp2
  go_quiet (fail)
  go_wp2
  refine bodyPost_ret (results_none rfl _ _ _) rfl ?_
  exact ⟨rfl, bel_drewN (Below.refl _ _) _⟩

theorem ladOff_cell {w : World} {b : Nat} {rd : Int} {v : Value} (h : BookAt w b rd v) (s : Int) (hs : s = 1 ∨ s = 2) : w.cell? ⟨b, ladOff s, none⟩ = some (.int .u8 s) := by
  rcases hs with rfl | rfl
  · exact h.buy
  · exact h.sell

theorem info27 : (Try.prog.info? 92).map (fun i => (i.size)) = some 33 := by kernel_rfl
/-- '!=' between a book's pointer and the capture's: nil, or the same. -/
theorem neq27_nil (b : Nat) (w : World) : (binOp .neq 27 (.pointer (some ⟨b, 0, none⟩)) (.pointer none)).run Try.prog w = .ok (.bool true) w := by
  have e : Try.prog.pointee 27 = 92 := by simp [Program.pointee, Try.underlying27]
  have := run_neq_pointer_nil (P := Try.prog) w 27 (some ⟨b, 0, none⟩) (by rw [e]; exact Try.underlying27)
  simpa using this
theorem neq27_same (b : Nat) (w : World) : (binOp .neq 27 (.pointer (some ⟨b, 0, none⟩)) (.pointer (some ⟨b, 0, none⟩))).run Try.prog w = .ok (.bool false) w := by
  obtain ⟨j, hj, _⟩ : ∃ j, Try.prog.info? 92 = some j ∧ j.size = 33 := by
    have := info27
    cases h : Try.prog.info? 92 with
    | none => simp [h] at this
    | some j => exact ⟨j, rfl, by simpa [h] using this⟩
  have h : ∀ d : Nat, (Op.equalIn (d + 1) 27 (.pointer (some ⟨b, 0, none⟩)) (.pointer (some ⟨b, 0, none⟩))).run Try.prog w = .ok true w := fun d => by
    simp [Op.equalIn, run_underlying Try.underlying27, sizeOf, typeInfo, hj, sameAddr]
  simp only [binOp]
  simp [Op.equal, Op.maxDepth, h 9999]

/-- The way of 'save' that is common to the orders not yet marked: up to the second test. -/
theorem lt_new (w : World) (o : Obj) (k b : Nat) (h : b ≤ w.heap.size) : b < ((w.alloc o).drewN k).heap.size := by
  show b < (w.heap.push o).size
  simp; omega
theorem bel_one (w : World) (a : Obj) (n : Nat) : Below w.heap.size w ((w.alloc a).drewN n) := bel_drewN ((Below.refl _ _).alloc (Nat.le_refl _) _) n

set_option maxRecDepth 100000 in
set_option maxHeartbeats 2000000 in
theorem save_readNil (c b o l : Nat) (seq n : Int) (ls lk lt id sd price rem stamp saved rd : Int) (v : Value) (w : World)
    (hc : CapAt w c seq n none ls lk lt) (hO : OrdAt w o l id sd price rem stamp saved) (hb : BookAt w b rd v) (hs : sd = 1 ∨ sd = 2) (h : decide (seq < stamp) = false) (h' : (saved == n) = false) (h2 : (rd == n) = true) :
    Calls Try.prog 35 #[.pointer (some ⟨c, 0, none⟩), .pointer (some ⟨b, 0, none⟩), .pointer (some ⟨o, 0, none⟩)] w fun e w' => e = .returned (.tuple #[]) ∧ Below w.heap.size w w' := by
  have hl := ladOff_cell hb sd hs
  obtain ⟨c0, c1, c6, c7, c8, c9⟩ := hc
  obtain ⟨o0, o1, o2, o3, o4, o5, l0, ofr⟩ := hO
  obtain ⟨b2, b11, b31, b32, bfr⟩ := hb
  clear hs
  have nc := World.new_ne w _ c0
  have no := World.new_ne w _ o0
  have nb := World.new_ne w _ b2
  have nl := World.new_ne w _ l0
  simp only at nc no nb nl
  have q1 := neq27_nil b
  go_enter Try.func35, Try.ntmps35
  go_wp2
  go_quiet (fail)
  go_wp2
  go_cut [6] (fun p x => p = .pointer (some ⟨w.heap.size, 0, none⟩) ∧ ∃ k, x = (w.alloc (.cells #[.int .u8 sd, .int .i64 (keyV sd price), .int .i64 stamp] 61)).drewN k)
  case first =>
    go_region_held3 (fun x => x.cell? ⟨o, 1, none⟩ = some (.int .u8 sd) ∧ x.cell? ⟨o, 3, none⟩ = some (.int .i64 stamp) ∧ x.cell? ⟨o, 5, none⟩ = some (.pointer (some ⟨l, 0, none⟩)) ∧ x.cell? ⟨l, 0, none⟩ = some (.int .i64 price) ∧ x.cell? ⟨b, ladOff sd, none⟩ = some (.int .u8 sd)) (go_keep)
      (first
        | (go_at_call 32; refine (ladder_any b sd _).mono ?_; rintro e w' ⟨rfl, rfl⟩)
        | (go_at_call 34; refine (levelKey_any ⟨b, ladOff sd, none⟩ sd price _ ?_).mono ?_; (simp [*]); rintro e w' ⟨rfl, rfl⟩))
    all_goals
      go_wp2_with fail
      go_meet
      exact ⟨rfl, _, rfl⟩
  case rest =>
    obtain ⟨rfl, k, rfl⟩ := hcut
    have c1' : ∀ k, ((w.alloc (.cells #[.int .u8 sd, .int .i64 (keyV sd price), .int .i64 stamp] 61)).drewN k).cell? ⟨c, 1, none⟩ = some (.int .u64 n) := fun k => by simp [World.cell?_alloc_some, c1]
    have c6' : ∀ k, ((w.alloc (.cells #[.int .u8 sd, .int .i64 (keyV sd price), .int .i64 stamp] 61)).drewN k).cell? ⟨c, 6, none⟩ = some (.pointer none) := fun k => by simp [World.cell?_alloc_some, c6]
    have b31' : ∀ k, ((w.alloc (.cells #[.int .u8 sd, .int .i64 (keyV sd price), .int .i64 stamp] 61)).drewN k).cell? ⟨b, 31, none⟩ = some (.int .u64 rd) := fun k => by simp [World.cell?_alloc_some, b31]
    go_wp2_with fail
    go_quiet (fail)
    go_wp2
    refine bodyPost_ret (results_none rfl _ _ _) rfl ⟨rfl, ?_⟩
    exact bel_drewN (bel_one _ _ _) _

set_option maxRecDepth 100000 in
set_option maxHeartbeats 2000000 in
theorem save_readCur (c b o l : Nat) (seq n : Int) (ls lk lt id sd price rem stamp saved rd : Int) (v : Value) (w : World)
    (hc : CapAt w c seq n (some ⟨b, 0, none⟩) ls lk lt) (hO : OrdAt w o l id sd price rem stamp saved) (hb : BookAt w b rd v) (hs : sd = 1 ∨ sd = 2) (h : decide (seq < stamp) = false) (h' : (saved == n) = false) (h2 : (rd == n) = true)
    (hle : decide (cmpPos sd (keyV sd price) stamp ls lk lt ≤ 0) = true) :
    Calls Try.prog 35 #[.pointer (some ⟨c, 0, none⟩), .pointer (some ⟨b, 0, none⟩), .pointer (some ⟨o, 0, none⟩)] w fun e w' => e = .returned (.tuple #[]) ∧ Below w.heap.size w w' := by
  have hl := ladOff_cell hb sd hs
  obtain ⟨c0, c1, c6, c7, c8, c9⟩ := hc
  obtain ⟨o0, o1, o2, o3, o4, o5, l0, ofr⟩ := hO
  obtain ⟨b2, b11, b31, b32, bfr⟩ := hb
  clear hs
  have nc := World.new_ne w _ c0
  have no := World.new_ne w _ o0
  have nb := World.new_ne w _ b2
  have nl := World.new_ne w _ l0
  simp only at nc no nb nl
  have q1 := neq27_same b
  go_enter Try.func35, Try.ntmps35
  go_wp2
  go_quiet (fail)
  go_wp2
  go_cut [6] (fun p x => p = .pointer (some ⟨w.heap.size, 0, none⟩) ∧ ∃ k, x = (w.alloc (.cells #[.int .u8 sd, .int .i64 (keyV sd price), .int .i64 stamp] 61)).drewN k)
  case first =>
    go_region_held3 (fun x => x.cell? ⟨o, 1, none⟩ = some (.int .u8 sd) ∧ x.cell? ⟨o, 3, none⟩ = some (.int .i64 stamp) ∧ x.cell? ⟨o, 5, none⟩ = some (.pointer (some ⟨l, 0, none⟩)) ∧ x.cell? ⟨l, 0, none⟩ = some (.int .i64 price) ∧ x.cell? ⟨b, ladOff sd, none⟩ = some (.int .u8 sd)) (go_keep)
      (first
        | (go_at_call 32; refine (ladder_any b sd _).mono ?_; rintro e w' ⟨rfl, rfl⟩)
        | (go_at_call 34; refine (levelKey_any ⟨b, ladOff sd, none⟩ sd price _ ?_).mono ?_; (simp [*]); rintro e w' ⟨rfl, rfl⟩))
    all_goals
      go_wp2_with fail
      go_meet
      exact ⟨rfl, _, rfl⟩
  case rest =>
    obtain ⟨rfl, k, rfl⟩ := hcut
    have lc := World.block_lt_of_cell? w _ c0
    have lb := World.block_lt_of_cell? w _ b2
    simp only at lc lb
    go_wp2_with fail
    go_region_held3 (fun x => x.cell? ⟨c, 1, none⟩ = some (.int .u64 n) ∧ x.cell? ⟨c, 6, none⟩ = some (.pointer (some ⟨b, 0, none⟩)) ∧ x.cell? ⟨c, 7, none⟩ = some (.int .u8 ls) ∧ x.cell? ⟨c, 8, none⟩ = some (.int .i64 lk) ∧ x.cell? ⟨c, 9, none⟩ = some (.int .i64 lt) ∧ x.cell? ⟨b, 31, none⟩ = some (.int .u64 rd) ∧ x.cell? ⟨w.heap.size, 0, none⟩ = some (.int .u8 sd) ∧ x.cell? ⟨w.heap.size, 1, none⟩ = some (.int .i64 (keyV sd price)) ∧ x.cell? ⟨w.heap.size, 2, none⟩ = some (.int .i64 stamp))
      (go_keep)
      ((go_at_call 29; refine (compare_any _ _ _ _ _ _ _).mono ?_; rintro e w' ⟨rfl, hbel⟩; have hw0 := fun o => hbel.cell (p := ⟨w.heap.size, o, none⟩) (lt_new _ _ _ _ (Nat.le_refl _)); have hw1 := fun o => hbel.cell (p := ⟨c, o, none⟩) (lt_new _ _ _ _ (Nat.le_of_lt lc)); have hw2 := fun o => hbel.cell (p := ⟨b, o, none⟩) (lt_new _ _ _ _ (Nat.le_of_lt lb))))
    go_wp2
    refine bodyPost_ret (results_none rfl _ _ _) rfl ⟨rfl, ?_⟩
    exact (bel_one _ _ _).trans (hbel.mono (Nat.le_of_lt (lt_new _ _ _ _ (Nat.le_refl _))))

/-- Below 'base', x is as w was but for the cells of A; below 'lo' it is w whole. -/
structure KeepS (base lo : Nat) (A : Addr → Prop) (w x : World) : Prop where
  size : w.heap.size ≤ x.heap.size
  cell : ∀ a : Addr, a.block < base → ¬ A a → x.cell? a = w.cell? a
  frozen : ∀ a : Addr, a.block < base → x.frozen? a = w.frozen? a
  bel : Below lo w x

theorem KeepS.refl (base lo : Nat) (A : Addr → Prop) (w : World) : KeepS base lo A w w := ⟨Nat.le_refl _, fun _ _ _ => rfl, fun _ _ => rfl, Below.refl _ _⟩
theorem KeepS.trans {base lo : Nat} {A : Addr → Prop} {w x y : World} (h : KeepS base lo A w x) (k : KeepS base lo A x y) : KeepS base lo A w y :=
  ⟨Nat.le_trans h.size k.size, fun a ha hn => (k.cell a ha hn).trans (h.cell a ha hn), fun a ha => (k.frozen a ha).trans (h.frozen a ha), h.bel.trans k.bel⟩
theorem KeepS.of_below {base lo B : Nat} {A : Addr → Prop} {w x : World} (h : Below B w x) (hB : base ≤ B) (hl : lo ≤ B) : KeepS base lo A w x :=
  ⟨h.size, fun a ha _ => h.cell (Nat.lt_of_lt_of_le ha hB), fun a ha => h.frozen (Nat.lt_of_lt_of_le ha hB), h.mono hl⟩
theorem KeepS.of_keepB {base lo B0 : Nat} {A : Addr → Prop} {own : Option Nat} {p : Addr} {w x : World} (h : KeepB B0 own p w x) (hp : A p) (h1 : lo ≤ p.block) (h2 : p.block < base) (h3 : base ≤ B0) (h4 : ∀ k, own = some k → base ≤ k) : KeepS base lo A w x :=
  ⟨h.size, fun a ha hn => h.cell a (by omega) (fun e => by have := h4 _ e; omega) (fun e => hn (by rw [e]; exact hp)), fun a ha => h.frozen a (by omega) (fun e => by have := h4 _ e; omega), h.bel lo h1 (by omega) (fun k hk => by have := h4 _ hk; omega)⟩
theorem KeepS.setCell {base lo : Nat} {A : Addr → Prop} {w x : World} (h : KeepS base lo A w x) {p : Addr} (hp : A p) (hl : lo ≤ p.block) (v : Value) : KeepS base lo A w (x.setCell p v) := by
  refine ⟨by simpa [World.setCell] using h.size, fun c hc hn => ?_, fun c hc => (World.frozen?_setCell _ _ _ _).trans (h.frozen c hc), h.bel.setCell hl v⟩
  have hne : p ≠ c := fun e => hn (by rw [← e]; exact hp)
  rw [World.cell?_setCell_other _ _ _ _ hne]
  exact h.cell c hc hn

theorem ne_at {b o b' o' : Nat} (h : o ≠ o' ∨ b ≠ b') : (⟨b, o, none⟩ : Addr) ≠ ⟨b', o', none⟩ := by
  intro e
  simp at e
  omega

end Go.Proofs.Qxb6616641a
