import Derived.Test.Qxb6616641aSaveMore
namespace Go.Proofs.Qxb6616641a
open Go.RowKit
set_option linter.unusedVariables false
attribute [local go_sem ↓] Go.wp_at_zero Go.wp_at_succ
attribute [local go_sem] alloc_drewN setCell_drewN

theorem CapAt.below {w x : World} {B c : Nat} {seq n : Int} {cur : Option Addr} {ls lk lt : Int} (h : CapAt w c seq n cur ls lk lt) (hb : Below B w x) (hc : c < B) : CapAt x c seq n cur ls lk lt :=
  ⟨(hb.cell (p := ⟨c, 0, none⟩) hc).trans h.seq, (hb.cell (p := ⟨c, 1, none⟩) hc).trans h.n, (hb.cell (p := ⟨c, 6, none⟩) hc).trans h.cur, (hb.cell (p := ⟨c, 7, none⟩) hc).trans h.ls, (hb.cell (p := ⟨c, 8, none⟩) hc).trans h.lk, (hb.cell (p := ⟨c, 9, none⟩) hc).trans h.lt⟩
theorem OrdAt.below {w x : World} {B o l : Nat} {id sd price rem stamp saved : Int} (h : OrdAt w o l id sd price rem stamp saved) (hb : Below B w x) (ho : o < B) (hl : l < B) : OrdAt x o l id sd price rem stamp saved :=
  ⟨(hb.cell (p := ⟨o, 0, none⟩) ho).trans h.id, (hb.cell (p := ⟨o, 1, none⟩) ho).trans h.sd, (hb.cell (p := ⟨o, 2, none⟩) ho).trans h.rem, (hb.cell (p := ⟨o, 3, none⟩) ho).trans h.stamp, (hb.cell (p := ⟨o, 4, none⟩) ho).trans h.saved, (hb.cell (p := ⟨o, 5, none⟩) ho).trans h.level, (hb.cell (p := ⟨l, 0, none⟩) hl).trans h.price, (hb.frozen (p := ⟨o, 4, none⟩) ho).trans h.free⟩
theorem BookAt.below {w x : World} {B b : Nat} {rd : Int} {v : Value} (h : BookAt w b rd v) (hb : Below B w x) (hc : b < B) : BookAt x b rd v :=
  ⟨(hb.cell (p := ⟨b, 2, none⟩) hc).trans h.buy, (hb.cell (p := ⟨b, 11, none⟩) hc).trans h.sell, (hb.cell (p := ⟨b, 31, none⟩) hc).trans h.read, (hb.cell (p := ⟨b, 32, none⟩) hc).trans h.saved, (hb.frozen (p := ⟨b, 32, none⟩) hc).trans h.free⟩

/-- The box of an order. -/
structure BoxAt (w : World) (b : Nat) (id sd price rem stamp saved : Int) : Prop where
  id : w.cell? ⟨b, 0, none⟩ = some (.int .i64 id)
  sd : w.cell? ⟨b, 1, none⟩ = some (.int .u8 sd)
  price : w.cell? ⟨b, 2, none⟩ = some (.int .i64 price)
  rem : w.cell? ⟨b, 3, none⟩ = some (.int .i64 rem)
  stamp : w.cell? ⟨b, 4, none⟩ = some (.int .i64 stamp)
  saved : w.cell? ⟨b, 5, none⟩ = some (.int .u64 saved)
theorem BoxAt.below {w x : World} {B b : Nat} {id sd price rem stamp saved : Int} (h : BoxAt w b id sd price rem stamp saved) (hb : Below B w x) (hc : b < B) : BoxAt x b id sd price rem stamp saved :=
  ⟨(hb.cell (p := ⟨b, 0, none⟩) hc).trans h.id, (hb.cell (p := ⟨b, 1, none⟩) hc).trans h.sd, (hb.cell (p := ⟨b, 2, none⟩) hc).trans h.price, (hb.cell (p := ⟨b, 3, none⟩) hc).trans h.rem, (hb.cell (p := ⟨b, 4, none⟩) hc).trans h.stamp, (hb.cell (p := ⟨b, 5, none⟩) hc).trans h.saved⟩

theorem CapAt.keep {w x : World} {base lo c : Nat} {A : Addr → Prop} {seq n : Int} {cur : Option Addr} {ls lk lt : Int} (h : CapAt w c seq n cur ls lk lt) (hk : KeepS base lo A w x) (hc : c < base) (hA : ∀ o, ¬ A ⟨c, o, none⟩) : CapAt x c seq n cur ls lk lt :=
  ⟨(hk.cell _ hc (hA _)).trans h.seq, (hk.cell _ hc (hA _)).trans h.n, (hk.cell _ hc (hA _)).trans h.cur, (hk.cell _ hc (hA _)).trans h.ls, (hk.cell _ hc (hA _)).trans h.lk, (hk.cell _ hc (hA _)).trans h.lt⟩
theorem OrdAt.keep {w x : World} {base lo o l : Nat} {A : Addr → Prop} {id sd price rem stamp saved saved' : Int} (h : OrdAt w o l id sd price rem stamp saved) (hk : KeepS base lo A w x) (ho : o < base) (hl : l < base) (hA : ∀ j, j ≠ 4 → ¬ A ⟨o, j, none⟩) (hA' : ¬ A ⟨l, 0, none⟩) (hs : x.cell? ⟨o, 4, none⟩ = some (.int .u64 saved')) : OrdAt x o l id sd price rem stamp saved' :=
  ⟨(hk.cell _ ho (hA _ (by decide))).trans h.id, (hk.cell _ ho (hA _ (by decide))).trans h.sd, (hk.cell _ ho (hA _ (by decide))).trans h.rem, (hk.cell _ ho (hA _ (by decide))).trans h.stamp, hs, (hk.cell _ ho (hA _ (by decide))).trans h.level, (hk.cell _ hl hA').trans h.price, (hk.frozen _ ho).trans h.free⟩
theorem BookAt.keep {w x : World} {base lo b : Nat} {A : Addr → Prop} {rd : Int} {v v' : Value} (h : BookAt w b rd v) (hk : KeepS base lo A w x) (hb : b < base) (hA : ∀ j, j ≠ 32 → ¬ A ⟨b, j, none⟩) (hv : x.cell? ⟨b, 32, none⟩ = some v') : BookAt x b rd v' :=
  ⟨(hk.cell _ hb (hA _ (by decide))).trans h.buy, (hk.cell _ hb (hA _ (by decide))).trans h.sell, (hk.cell _ hb (hA _ (by decide))).trans h.read, hv, (hk.frozen _ hb).trans h.free⟩

theorem mustB_marked (seq n rd : Int) (c : Bool) (ls lk lt sd price stamp : Int) : mustB seq n rd c ls lk lt sd price stamp n = false := by
  unfold mustB
  split
  · rfl
  · rw [if_pos rfl]

theorem hpush_one (r : SRec) : hpush [] r = [r] := rfl

theorem savedAt_zero (b base g cap : Nat) (r : SRec) (w : World) (h : w.cell? ⟨b, 32, none⟩ = some (.slice (some ⟨g, 0, none⟩) 1 cap)) (hown : w.ownsRow base 114 6 (.slice (some ⟨g, 0, none⟩) 1 cap) 1 (flat [r])) :
    Calls Try.prog 26 #[.pointer (some ⟨b, 0, none⟩), .int .i64 0] w fun e w' => e = .returned (.tuple #[.int .u8 r.side, .int .i64 r.key, .int .i64 r.stamp, .int .i64 r.price, .int .i64 r.id, .int .i64 r.rem]) ∧ Below w.heap.size w w' :=
  savedAt_any b 0 base g cap [r] w h hown (by simp)

/-- What 'save' may write: the book's list, the order's mark. -/
def Two (b o : Nat) (a : Addr) : Prop := a = ⟨b, 32, none⟩ ∨ a = ⟨o, 4, none⟩

set_option maxRecDepth 100000 in
set_option maxHeartbeats 4000000 in
theorem law4_no (seq n rd : Int) (c : Bool) (ls lk lt id sd price rem stamp saved : Int) (w : World) (hs : sd = 1 ∨ sd = 2) (hp : I64 price) (ht : I64 stamp) (hlk : I64 lk) (hlt : I64 lt)
    (hm : mustB seq n rd c ls lk lt sd price stamp saved = false) :
    Calls Try.prog 8 #[.int .i64 seq, .int .u64 n, .int .u64 rd, .bool c, .agg #[.int .u8 ls, .int .i64 lk, .int .i64 lt], .agg #[.int .i64 id, .int .u8 sd, .int .i64 price, .int .i64 rem, .int .i64 stamp, .int .u64 saved]] w
      fun e w' => e = .returned (.bool true) ∧ Below w.heap.size w w' := by
  have s1 : ((sd != 1) = false ∧ True) ∨ ((sd != 1) = true ∧ (sd != 2) = false) := by rcases hs with rfl | rfl <;> simp
  have HS := hidP hs
  clear hs
  rcases s1 with ⟨s1, _⟩ | ⟨s1, s2⟩
  all_goals
    cases c
    all_goals
      go_enter Try.func8, Try.ntmps8
      go_wp2_with fail
      refine (newBook_at _ _ rd _).mono ?_
      rintro e w1 ⟨rfl, hB, hb1, z1⟩
      have p0 := (hb1.cell (p := ⟨w.heap.size, 0, none⟩) (by simp; omega)).trans (show _ = some (.int .u8 ls) by simp)
      have p1 := (hb1.cell (p := ⟨w.heap.size, 1, none⟩) (by simp; omega)).trans (show _ = some (.int .i64 lk) by simp)
      have p2 := (hb1.cell (p := ⟨w.heap.size, 2, none⟩) (by simp; omega)).trans (show _ = some (.int .i64 lt) by simp)
      have x0 := (hb1.cell (p := ⟨w.heap.size + 1, 0, none⟩) (by simp)).trans (show _ = some (.int .i64 id) by simp)
      have x1 := (hb1.cell (p := ⟨w.heap.size + 1, 1, none⟩) (by simp)).trans (show _ = some (.int .u8 sd) by simp)
      have x2 := (hb1.cell (p := ⟨w.heap.size + 1, 2, none⟩) (by simp)).trans (show _ = some (.int .i64 price) by simp)
      have x3 := (hb1.cell (p := ⟨w.heap.size + 1, 3, none⟩) (by simp)).trans (show _ = some (.int .i64 rem) by simp)
      have x4 := (hb1.cell (p := ⟨w.heap.size + 1, 4, none⟩) (by simp)).trans (show _ = some (.int .i64 stamp) by simp)
      have x5 := (hb1.cell (p := ⟨w.heap.size + 1, 5, none⟩) (by simp)).trans (show _ = some (.int .u64 saved) by simp)
      have HW1 := hidP ((bel_two w _ _).trans (hb1.mono (by simp; omega)))
      simp only [World.size_alloc] at hB z1
      have HB1 := hidP hB
      clear hb1 hB
      go_wp2_with fail
      refine (newCapture_at seq n _ ls lk lt _).mono ?_
      rintro e w2 ⟨rfl, hC, hb2, z2⟩
      have l1 : w.heap.size < w1.heap.size := by omega
      have l2 : w.heap.size + 1 < w1.heap.size := by omega
      have rp2 := fun o => hb2.cell (p := ⟨w.heap.size, o, none⟩) l1
      have ro2 := fun o => hb2.cell (p := ⟨w.heap.size + 1, o, none⟩) l2
      have HC2 := hidP hC
      have HB2 := hidP (HB1.out.below hb2 (by omega))
      have HW2 := hidP (HW1.out.trans (hb2.mono (by omega)))
      clear hC hb2 l1 l2 HW1 HB1
      go_wp2_with fail
      refine (newOrder_at id sd price rem stamp saved _).mono ?_
      rintro e w3 ⟨rfl, hO, hb3, z3⟩
      have l1 : w.heap.size < w2.heap.size := by omega
      have l2 : w.heap.size + 1 < w2.heap.size := by omega
      have rp3 := fun o => hb3.cell (p := ⟨w.heap.size, o, none⟩) l1
      have ro3 := fun o => hb3.cell (p := ⟨w.heap.size + 1, o, none⟩) l2
      have HO3 := hidP hO
      have HC3 := hidP (HC2.out.below hb3 (by omega))
      have HB3 := hidP (HB2.out.below hb3 (by omega))
      have HW3 := hidP (HW2.out.trans (hb3.mono (by omega)))
      clear hO hb3 l1 l2 HW2 HB2 HC2
      go_wp2_with fail
      refine (mustSave_any seq n rd _ ls lk lt id sd price rem stamp saved _ hp ht hlk hlt).mono ?_
      rintro e w4 ⟨rfl, hb4⟩
      have l1 : w.heap.size < w3.heap.size := by omega
      have l2 : w.heap.size + 1 < w3.heap.size := by omega
      have rp4 := fun o => hb4.cell (p := ⟨w.heap.size, o, none⟩) l1
      have ro4 := fun o => hb4.cell (p := ⟨w.heap.size + 1, o, none⟩) l2
      have z4 := hb4.size
      have HO4 := hidP (HO3.out.below hb4 (by omega) (by omega))
      have HC4 := hidP (HC3.out.below hb4 (by omega))
      have HB4 := hidP (HB3.out.below hb4 (by omega))
      have HW4 := hidP (HW3.out.trans (hb4.mono (by omega)))
      clear hb4 l1 l2 HW3 HB3 HC3 HO3
      go_wp2_with fail
      refine (keyOf_any sd price _).mono ?_
      rintro e w5 ⟨rfl, hw5⟩
      subst hw5
      go_wp2_with fail
      simp only [z2, z1] at HC4 HO4 HB4
      refine wp_loop_rounds 3 ?_
      rw [rounds_succ]
      go_wp2_with fail
      refine (zzsave_no _ _ _ _ seq n _ ls lk lt id sd price rem stamp saved rd _ _ HC4.out HO4.out HB4.out HS.out hm).mono ?_
      rintro e w6 ⟨rfl, hb6⟩
      have z6 := hb6.size
      have HO6 := hidP (HO4.out.below hb6 (by omega) (by omega))
      have HC6 := hidP (HC4.out.below hb6 (by omega))
      have HB6 := hidP (HB4.out.below hb6 (by omega))
      have HW6 := hidP (HW4.out.trans (hb6.mono (by omega)))
      clear hb6
      go_wp2_with fail
      refine (orderSaved_any _ _ id sd price rem stamp saved _ HO6.out).mono ?_
      rintro e w7 ⟨rfl, hw7⟩
      subst hw7
      go_wp2_with fail
      refine (savedLen_any _ none 0 0 _ HB6.out.saved).mono ?_
      rintro e w8 ⟨rfl, hw8⟩
      subst hw8
      go_wp2_with fail
      rw [rounds_succ]
      go_wp2_with fail
      refine (zzsave_no _ _ _ _ seq n _ ls lk lt id sd price rem stamp saved rd _ _ HC6.out HO6.out HB6.out HS.out hm).mono ?_
      rintro e v6 ⟨rfl, gb6⟩
      have y6 := gb6.size
      have HO9 := hidP (HO6.out.below gb6 (by omega) (by omega))
      have HC9 := hidP (HC6.out.below gb6 (by omega))
      have HB9 := hidP (HB6.out.below gb6 (by omega))
      have HW9 := hidP (HW6.out.trans (gb6.mono (by omega)))
      clear gb6
      go_wp2_with fail
      refine (orderSaved_any _ _ id sd price rem stamp saved _ HO9.out).mono ?_
      rintro e v7 ⟨rfl, hv7⟩
      subst hv7
      go_wp2_with fail
      refine (savedLen_any _ none 0 0 _ HB9.out.saved).mono ?_
      rintro e v8 ⟨rfl, hv8⟩
      subst hv8
      go_wp2_with fail
      rw [rounds_succ]
      go_wp2_with fail
      go_ret
      exact ⟨rfl, HW9.out⟩

set_option maxRecDepth 100000 in
set_option maxHeartbeats 4000000 in
theorem law4_yes (seq n rd : Int) (c : Bool) (ls lk lt id sd price rem stamp saved : Int) (w : World) (hs : sd = 1 ∨ sd = 2) (hp : I64 price) (ht : I64 stamp) (hlk : I64 lk) (hlt : I64 lt)
    (hm : mustB seq n rd c ls lk lt sd price stamp saved = true) :
    Calls Try.prog 8 #[.int .i64 seq, .int .u64 n, .int .u64 rd, .bool c, .agg #[.int .u8 ls, .int .i64 lk, .int .i64 lt], .agg #[.int .i64 id, .int .u8 sd, .int .i64 price, .int .i64 rem, .int .i64 stamp, .int .u64 saved]] w
      fun e w' => e = .returned (.bool true) ∧ Below w.heap.size w w' := by
  have s1 : ((sd != 1) = false ∧ True) ∨ ((sd != 1) = true ∧ (sd != 2) = false) := by rcases hs with rfl | rfl <;> simp
  have HS := hidP hs
  have HM2 := hidP (mustB_marked seq n rd c ls lk lt sd price stamp)
  clear hs
  rcases s1 with ⟨s1, _⟩ | ⟨s1, s2⟩
  all_goals
    cases c
    all_goals
      go_enter Try.func8, Try.ntmps8
      go_wp2_with fail
      refine (newBook_at _ _ rd _).mono ?_
      rintro e w1 ⟨rfl, hB, hb1, z1⟩
      have p0 := (hb1.cell (p := ⟨w.heap.size, 0, none⟩) (by simp; omega)).trans (show _ = some (.int .u8 ls) by simp)
      have p1 := (hb1.cell (p := ⟨w.heap.size, 1, none⟩) (by simp; omega)).trans (show _ = some (.int .i64 lk) by simp)
      have p2 := (hb1.cell (p := ⟨w.heap.size, 2, none⟩) (by simp; omega)).trans (show _ = some (.int .i64 lt) by simp)
      have x0 := (hb1.cell (p := ⟨w.heap.size + 1, 0, none⟩) (by simp)).trans (show _ = some (.int .i64 id) by simp)
      have x1 := (hb1.cell (p := ⟨w.heap.size + 1, 1, none⟩) (by simp)).trans (show _ = some (.int .u8 sd) by simp)
      have x2 := (hb1.cell (p := ⟨w.heap.size + 1, 2, none⟩) (by simp)).trans (show _ = some (.int .i64 price) by simp)
      have x3 := (hb1.cell (p := ⟨w.heap.size + 1, 3, none⟩) (by simp)).trans (show _ = some (.int .i64 rem) by simp)
      have x4 := (hb1.cell (p := ⟨w.heap.size + 1, 4, none⟩) (by simp)).trans (show _ = some (.int .i64 stamp) by simp)
      have x5 := (hb1.cell (p := ⟨w.heap.size + 1, 5, none⟩) (by simp)).trans (show _ = some (.int .u64 saved) by simp)
      have HW1 := hidP ((bel_two w _ _).trans (hb1.mono (by simp; omega)))
      simp only [World.size_alloc] at hB z1
      have HB1 := hidP hB
      clear hb1 hB
      go_wp2_with fail
      refine (newCapture_at seq n _ ls lk lt _).mono ?_
      rintro e w2 ⟨rfl, hC, hb2, z2⟩
      have l1 : w.heap.size < w1.heap.size := by omega
      have l2 : w.heap.size + 1 < w1.heap.size := by omega
      have rp2 := fun o => hb2.cell (p := ⟨w.heap.size, o, none⟩) l1
      have ro2 := fun o => hb2.cell (p := ⟨w.heap.size + 1, o, none⟩) l2
      have HC2 := hidP hC
      have HB2 := hidP (HB1.out.below hb2 (by omega))
      have HW2 := hidP (HW1.out.trans (hb2.mono (by omega)))
      clear hC hb2 l1 l2 HW1 HB1
      go_wp2_with fail
      refine (newOrder_at id sd price rem stamp saved _).mono ?_
      rintro e w3 ⟨rfl, hO, hb3, z3⟩
      have l1 : w.heap.size < w2.heap.size := by omega
      have l2 : w.heap.size + 1 < w2.heap.size := by omega
      have rp3 := fun o => hb3.cell (p := ⟨w.heap.size, o, none⟩) l1
      have ro3 := fun o => hb3.cell (p := ⟨w.heap.size + 1, o, none⟩) l2
      have HO3 := hidP hO
      have HC3 := hidP (HC2.out.below hb3 (by omega))
      have HB3 := hidP (HB2.out.below hb3 (by omega))
      have HW3 := hidP (HW2.out.trans (hb3.mono (by omega)))
      clear hO hb3 l1 l2 HW2 HB2 HC2
      go_wp2_with fail
      refine (mustSave_any seq n rd _ ls lk lt id sd price rem stamp saved _ hp ht hlk hlt).mono ?_
      rintro e w4 ⟨rfl, hb4⟩
      have l1 : w.heap.size < w3.heap.size := by omega
      have l2 : w.heap.size + 1 < w3.heap.size := by omega
      have rp4 := fun o => hb4.cell (p := ⟨w.heap.size, o, none⟩) l1
      have ro4 := fun o => hb4.cell (p := ⟨w.heap.size + 1, o, none⟩) l2
      have z4 := hb4.size
      have HO4 := hidP (HO3.out.below hb4 (by omega) (by omega))
      have HC4 := hidP (HC3.out.below hb4 (by omega))
      have HB4 := hidP (HB3.out.below hb4 (by omega))
      have HW4 := hidP (HW3.out.trans (hb4.mono (by omega)))
      clear hb4 l1 l2 HW3 HB3 HC3 HO3
      go_wp2_with fail
      refine (keyOf_any sd price _).mono ?_
      rintro e w5 ⟨rfl, hw5⟩
      subst hw5
      go_wp2_with fail
      simp only [z2, z1] at HC4 HO4 HB4
      refine wp_loop_rounds 3 ?_
      rw [rounds_succ]
      go_wp2_with fail
      refine (zzsave_yes _ _ _ _ w5.heap.size w.heap.size seq n _ ls lk lt id sd price rem stamp saved rd _ [] (Two (w.heap.size + 1 + 1) (w.heap.size + 1 + 1 + 1 + 1 + 1)) _ HC4.out HO4.out HB4.out HS.out hm (World.ownsRow_nil _ _ _ _) (by simp) (Nat.le_refl _) (by omega) (by omega) (by omega) (by omega) (by omega) (Or.inl rfl) (Or.inr rfl)).mono ?_
      rintro e w6 ⟨rfl, v', hv', hown', hq', hk'⟩
      rw [hpush_one] at hown'
      obtain ⟨g, cap, rfl, hg1, hg2⟩ := hown'.form (by simp)
      have z6 := hk'.size
      have HO6 := hidP (HO4.out.keep hk' (by omega) (by omega) (fun j hj => by simp [Two]) (by simp [Two]) hq')
      have HC6 := hidP (HC4.out.keep hk' (by omega) (fun j => by simp [Two]))
      have HB6 := hidP (HB4.out.keep hk' (by omega) (fun j hj => by simp [Two]) hv')
      have HW6 := hidP (HW4.out.trans hk'.bel)
      have l2 : w.heap.size + 1 < w5.heap.size := by omega
      have ro6 := fun o => hk'.cell ⟨w.heap.size + 1, o, none⟩ l2 (by simp [Two])
      have HR6 := hidP hown'
      clear hk' hv' hq' hown' l2
      go_wp2_with fail
      refine (orderSaved_any _ _ id sd price rem stamp n _ HO6.out).mono ?_
      rintro e w7 ⟨rfl, hw7⟩
      subst hw7
      go_wp2_with fail
      refine (savedLen_any _ _ _ _ _ HB6.out.saved).mono ?_
      rintro e w8 ⟨rfl, hw8⟩
      subst hw8
      go_wp2_with fail
      refine (savedAt_zero _ _ g cap _ _ HB6.out.saved HR6.out).mono ?_
      rintro e w9 ⟨rfl, hb9⟩
      have z9 := hb9.size
      have HO9 := hidP (HO6.out.below hb9 (by omega) (by omega))
      have HC9 := hidP (HC6.out.below hb9 (by omega))
      have HB9 := hidP (HB6.out.below hb9 (by omega))
      have HW9 := hidP (HW6.out.trans (hb9.mono (by omega)))
      have HR9 := hidP (owns_below HR6.out hb9 (Nat.le_refl _))
      have l2 : w.heap.size + 1 < w8.heap.size := by omega
      have ro9 := fun o => hb9.cell (p := ⟨w.heap.size + 1, o, none⟩) l2
      clear hb9 l2
      go_wp2_with fail
      rw [rounds_succ]
      go_wp2_with fail
      refine (zzsave_no _ _ _ _ seq n _ ls lk lt id sd price rem stamp n rd _ _ HC9.out HO9.out HB9.out HS.out HM2.out).mono ?_
      rintro e v1 ⟨rfl, gb1⟩
      have y1 := gb1.size
      have HOa := hidP (HO9.out.below gb1 (by omega) (by omega))
      have HCa := hidP (HC9.out.below gb1 (by omega))
      have HBa := hidP (HB9.out.below gb1 (by omega))
      have HWa := hidP (HW9.out.trans (gb1.mono (by omega)))
      have HRa := hidP (owns_below HR9.out gb1 (Nat.le_refl _))
      have l2 : w.heap.size + 1 < w9.heap.size := by omega
      have roa := fun o => gb1.cell (p := ⟨w.heap.size + 1, o, none⟩) l2
      clear gb1 l2
      go_wp2_with fail
      refine (orderSaved_any _ _ id sd price rem stamp n _ HOa.out).mono ?_
      rintro e v2 ⟨rfl, hv2⟩
      subst hv2
      go_wp2_with fail
      refine (savedLen_any _ _ _ _ _ HBa.out.saved).mono ?_
      rintro e v3 ⟨rfl, hv3⟩
      subst hv3
      go_wp2_with fail
      refine (savedAt_zero _ _ g cap _ _ HBa.out.saved HRa.out).mono ?_
      rintro e v4 ⟨rfl, gb4⟩
      have HWb := hidP (HWa.out.trans (gb4.mono (by omega)))
      have l2 : w.heap.size + 1 < v3.heap.size := by omega
      have rob := fun o => gb4.cell (p := ⟨w.heap.size + 1, o, none⟩) l2
      clear gb4 l2
      go_wp2_with fail
      rw [rounds_succ]
      go_wp2_with fail
      go_ret
      exact ⟨rfl, HWb.out⟩
end Go.Proofs.Qxb6616641a
