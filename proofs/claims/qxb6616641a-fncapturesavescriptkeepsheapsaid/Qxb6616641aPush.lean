import Derived.Test.Qxb6616641aCmpWalks
import Derived.Deep.AppendLies
import Derived.Deep.DeepCutAuto
import Derived.OwnWalk
namespace Go.Proofs.Qxb6616641a
open Go.RowKit
set_option linter.unusedVariables false

/-- An order's image. -/
structure SRec where
  side : Int
  key : Int
  stamp : Int
  price : Int
  id : Int
  rem : Int

/-- Two images' positions, compared. -/
def SRec.cmp (a b : SRec) : Int := cmpPos a.side a.key a.stamp b.side b.key b.stamp

def SRec.zero : SRec := ⟨0, 0, 0, 0, 0, 0⟩

/-- Two places of a list, exchanged. -/
def swapL (l : List SRec) (i j : Nat) : List SRec := (l.set i (l.getD j SRec.zero)).set j (l.getD i SRec.zero)

/-- The loop of 'push' from place i on (f: fuel, at least i). -/
def sift : Nat → List SRec → Nat → List SRec
  | 0, l, _ => l
  | f + 1, l, i => if i = 0 then l else if 0 ≤ (l.getD i SRec.zero).cmp (l.getD ((i - 1) / 2) SRec.zero) then l else sift f (swapL l i ((i - 1) / 2)) ((i - 1) / 2)

def hpush (rs : List SRec) (r : SRec) : List SRec := sift rs.length (rs ++ [r]) rs.length

def SRec.cells (r : SRec) : List Value := [.int .u8 r.side, .int .i64 r.key, .int .i64 r.stamp, .int .i64 r.price, .int .i64 r.id, .int .i64 r.rem]
def flat (rs : List SRec) : List Value := (rs.map SRec.cells).flatten

theorem flat_length (rs : List SRec) : (flat rs).length = rs.length * 6 := by
  induction rs with
  | nil => rfl
  | cons r rs ih => simp [flat, SRec.cells] at ih ⊢; omega

theorem flat_snoc (rs : List SRec) (r : SRec) : flat (rs ++ [r]) = flat rs ++ r.cells := by simp [flat]

theorem flat_at (rs : List SRec) (i j : Nat) (hi : i < rs.length) (hj : j < 6) : (flat rs)[i * 6 + j]? = (rs.getD i SRec.zero).cells[j]? := by
  induction rs generalizing i with
  | nil => simp at hi
  | cons r rs ih =>
    have e : flat (r :: rs) = r.cells ++ flat rs := by simp [flat]
    have hl : r.cells.length = 6 := rfl
    rw [e]
    cases i with
    | zero => rw [List.getElem?_append_left (by omega)]; simp
    | succ i =>
      rw [List.getElem?_append_right (by omega), hl, show (i + 1) * 6 + j - 6 = i * 6 + j by omega, ih i (by simpa using hi)]
      simp

theorem flat_set (rs : List SRec) (i : Nat) (r : SRec) (hi : i < rs.length) :
    flat (rs.set i r) = (((((((flat rs).set (i * 6) (.int .u8 r.side)).set (i * 6 + 1) (.int .i64 r.key)).set (i * 6 + 2) (.int .i64 r.stamp)).set (i * 6 + 3) (.int .i64 r.price)).set (i * 6 + 4) (.int .i64 r.id)).set (i * 6 + 5) (.int .i64 r.rem)) := by
  induction rs generalizing i with
  | nil => simp at hi
  | cons q rs ih =>
    have e : ∀ q rs, flat (q :: rs) = .int .u8 q.side :: .int .i64 q.key :: .int .i64 q.stamp :: .int .i64 q.price :: .int .i64 q.id :: .int .i64 q.rem :: flat rs := fun q rs => by simp [flat, SRec.cells]
    cases i with
    | zero => simp [e]
    | succ i =>
      rw [List.set_cons_succ, e, e, ih i (by simpa using hi)]
      rw [show (i + 1) * 6 = i * 6 + 1 + 1 + 1 + 1 + 1 + 1 by omega]
      simp [List.set_cons_succ]


/-- Of the blocks below B0, x is as w was but for the row 'own' and the one cell p; below p's block and the row it is w whole. -/
structure KeepB (B0 : Nat) (own : Option Nat) (p : Addr) (w x : World) : Prop where
  size : w.heap.size ≤ x.heap.size
  cell : ∀ a : Addr, a.block < B0 → own ≠ some a.block → a ≠ p → x.cell? a = w.cell? a
  frozen : ∀ a : Addr, a.block < B0 → own ≠ some a.block → x.frozen? a = w.frozen? a
  bel : ∀ B, B ≤ p.block → B ≤ B0 → (∀ k, own = some k → B ≤ k) → Below B w x

theorem KeepB.trans {B0 : Nat} {own : Option Nat} {p : Addr} {w x y : World} (h : KeepB B0 own p w x) (k : KeepB B0 own p x y) : KeepB B0 own p w y :=
  ⟨Nat.le_trans h.size k.size, fun a ha ho hn => (k.cell a ha ho hn).trans (h.cell a ha ho hn), fun a ha ho => (k.frozen a ha ho).trans (h.frozen a ha ho), fun B h1 h2 h3 => (h.bel B h1 h2 h3).trans (k.bel B h1 h2 h3)⟩
theorem KeepB.of_below {B0 B : Nat} {own : Option Nat} {p : Addr} {w x : World} (h : Below B w x) (hB : B0 ≤ B) : KeepB B0 own p w x :=
  ⟨h.size, fun a ha _ _ => h.cell (Nat.lt_of_lt_of_le ha hB), fun a ha _ => h.frozen (Nat.lt_of_lt_of_le ha hB), fun B' h1 h2 _ => h.mono (Nat.le_trans h2 hB)⟩
theorem KeepB.setCell {B0 : Nat} {own : Option Nat} {p : Addr} {w x : World} (h : KeepB B0 own p w x) {a : Addr} (ha : own = some a.block ∨ B0 ≤ a.block) (v : Value) : KeepB B0 own p w (x.setCell a v) := by
  refine ⟨by simpa [World.setCell] using h.size, fun c hc ho hn => ?_, fun c hc ho => (World.frozen?_setCell _ _ _ _).trans (h.frozen c hc ho), fun B h1 h2 h3 => (h.bel B h1 h2 h3).setCell ?_ v⟩
  · have hne : a ≠ c := fun e => by
      subst e
      rcases ha with ha | ha
      · exact ho ha
      · omega
    rw [World.cell?_setCell_other _ _ _ _ hne]
    exact h.cell c hc ho hn
  · rcases ha with ha | ha
    · exact h3 _ ha
    · omega
theorem KeepB.setAt {B0 : Nat} {own : Option Nat} {p : Addr} {w x : World} (h : KeepB B0 own p w x) (v : Value) : KeepB B0 own p w (x.setCell p v) := by
  refine ⟨by simpa [World.setCell] using h.size, fun c hc ho hn => ?_, fun c hc ho => (World.frozen?_setCell _ _ _ _).trans (h.frozen c hc ho), fun B h1 h2 h3 => (h.bel B h1 h2 h3).setCell h1 v⟩
  rw [World.cell?_setCell_other _ _ _ _ (fun e => hn e.symm)]
  exact h.cell c hc ho hn
theorem KeepB.drew {B0 : Nat} {own : Option Nat} {p : Addr} {w x : World} (h : KeepB B0 own p w x) : KeepB B0 own p w x.drew :=
  ⟨h.size, h.cell, h.frozen, fun B h1 h2 h3 => (h.bel B h1 h2 h3).drew⟩
theorem KeepB.grown {B0 : Nat} {own : Option Nat} {p : Addr} {w x y : World} (h : KeepB B0 own p w x) (hg : x.grownBy y own) (hb : B0 ≤ x.heap.size) : KeepB B0 own p w y := by
  refine h.trans ⟨hg.size, fun a ha ho _ => ?_, fun a ha ho => ?_, fun B h1 h2 h3 => (Below.refl B x).grown hg (Nat.le_trans h2 hb) h3⟩
  · exact hg.cell_far a (by omega) (Ne.symm ho)
  · exact hg.frozen_far a (by omega) (Ne.symm ho)

theorem owns_below {w x : World} {B base : Nat} {e : TypeId} {size : Nat} {v : Value} {n : Nat} {xs : List Value} (h : w.ownsRow base e size v n xs) (hb : Below B w x) (hB : w.heap.size ≤ B) : x.ownsRow base e size v n xs := by
  refine ⟨h.1, ?_⟩
  rcases h.2 with h2 | ⟨g, cap, cur, hv, hg, hh, r⟩
  · exact .inl h2
  · refine .inr ⟨g, cap, cur, hv, hg, ?_, r⟩
    have hl : g < w.heap.size := by
      rcases Nat.lt_or_ge g w.heap.size with hl | hl
      · exact hl
      · rw [Array.getElem?_eq_none hl] at hh; cases hh
    rw [hb.block g (Nat.lt_of_lt_of_le hl hB)]; exact hh

theorem owns_setCell_far {x : World} {base : Nat} {e : TypeId} {size : Nat} {v : Value} {n : Nat} {xs : List Value} (h : x.ownsRow base e size v n xs) {a : Addr} (ha : a.block < base) (u : Value) : (x.setCell a u).ownsRow base e size v n xs := by
  refine ⟨h.1, ?_⟩
  rcases h.2 with h2 | ⟨g, cap, cur, hv, hg, hh, r⟩
  · exact .inl h2
  · refine .inr ⟨g, cap, cur, hv, hg, ?_, r⟩
    rw [heap_setCell_other _ _ _ _ (by omega)]; exact hh

theorem info114 : (Try.prog.info? 114).map (fun i => (i.zero, i.size, i.bytes)) = some (some (.agg #[.int .u8 0, .int .i64 0, .int .i64 0, .int .i64 0, .int .i64 0, .int .i64 0]), 6, 48) := by kernel_rfl

theorem far_cell {w w' : World} {row : Option Nat} {b o : Nat} {v : Value} (hg : w.grownBy w' row) (hlt : b < w.heap.size) (hne : row ≠ some b) (hc : w.cell? ⟨b, o, none⟩ = some v) : w'.cell? ⟨b, o, none⟩ = some v :=
  (hg.cell_far ⟨b, o, none⟩ hlt (Ne.symm hne)).trans hc
theorem far_frozen {w w' : World} {row : Option Nat} {b o : Nat} (hg : w.grownBy w' row) (hlt : b < w.heap.size) (hne : row ≠ some b) (hc : w.frozen? ⟨b, o, none⟩ = false) : w'.frozen? ⟨b, o, none⟩ = false :=
  (hg.frozen_far ⟨b, o, none⟩ hlt (Ne.symm hne)).trans hc
theorem two_frozen {w : World} {b o : Nat} (hlt : b < w.heap.size) (hc : w.frozen? ⟨b, o, none⟩ = false) {o1 o2 : Obj} : ((w.alloc o1).alloc o2).drew.frozen? ⟨b, o, none⟩ = false := by
  show ((w.alloc o1).alloc o2).frozen? ⟨b, o, none⟩ = false
  rw [World.frozen?_alloc_past _ _ _ (by simp; omega), World.frozen?_alloc_past _ _ _ hlt]
  exact hc
theorem two_lt {w : World} {b : Nat} (hlt : b < w.heap.size) {o1 o2 : Obj} : b < ((w.alloc o1).alloc o2).drew.heap.size := by
  show b < ((w.heap.push o1).push o2).size
  simp; omega
theorem two_cell {w : World} {b o : Nat} {v : Value} (hc : w.cell? ⟨b, o, none⟩ = some v) {o1 o2 : Obj} : ((w.alloc o1).alloc o2).drew.cell? ⟨b, o, none⟩ = some v := by
  show ((w.alloc o1).alloc o2).cell? ⟨b, o, none⟩ = some v
  have h := World.block_lt_of_cell? w _ hc
  simp only at h
  rw [World.cell?_alloc_lt _ _ _ (by simp; omega), World.cell?_alloc_lt _ _ _ h]
  exact hc

/-- An image laid into place i of the row g. -/
def setRec (x : World) (g i : Nat) (r : SRec) : World :=
  (((((x.setCell ⟨g, i * 6, none⟩ (.int .u8 r.side)).setCell ⟨g, i * 6 + 1, none⟩ (.int .i64 r.key)).setCell ⟨g, i * 6 + 2, none⟩ (.int .i64 r.stamp)).setCell ⟨g, i * 6 + 3, none⟩ (.int .i64 r.price)).setCell ⟨g, i * 6 + 4, none⟩ (.int .i64 r.id)).setCell ⟨g, i * 6 + 5, none⟩ (.int .i64 r.rem)

theorem owns_setRec {x : World} {base g n cap : Nat} {e : TypeId} {l : List SRec} (h : x.ownsRow base e 6 (.slice (some ⟨g, 0, none⟩) n cap) n (flat l)) (i : Nat) (r : SRec) (hi : i < l.length) :
    (setRec x g i r).ownsRow base e 6 (.slice (some ⟨g, 0, none⟩) n cap) n (flat (l.set i r)) := by
  rw [flat_set l i r hi]
  exact ((((((h.stored _ _).1.stored _ _).1.stored _ _).1.stored _ _).1.stored _ _).1.stored _ _).1

theorem KeepB.setRec {B0 : Nat} {own : Option Nat} {p : Addr} {w x : World} (h : KeepB B0 own p w x) {g : Nat} (hg : own = some g ∨ B0 ≤ g) (i : Nat) (r : SRec) : KeepB B0 own p w (setRec x g i r) :=
  (((((h.setCell (by exact hg) _).setCell (by exact hg) _).setCell (by exact hg) _).setCell (by exact hg) _).setCell (by exact hg) _).setCell (by exact hg) _

theorem cell_setRec {x : World} {g i : Nat} {r : SRec} {a : Addr} (ha : a.block ≠ g) : (setRec x g i r).cell? a = x.cell? a := by
  have h : ∀ (y : World) (j : Nat) (u : Value), (y.setCell ⟨g, j, none⟩ u).cell? a = y.cell? a := fun y j u => World.cell?_setCell_other _ _ _ _ (fun e => ha (by rw [← e]))
  unfold setRec
  rw [h, h, h, h, h, h]

theorem swap_rel {wc w : World} {hb ho base B0 g n cap : Nat} {own : Option Nat} {l : List SRec} {S : Value} (hlt : hb < base) (hgb : base ≤ g) (hg : own = some g ∨ B0 ≤ g) (hc : wc.cell? ⟨hb, ho, none⟩ = some S)
    (hown : wc.ownsRow base 114 6 (.slice (some ⟨g, 0, none⟩) n cap) n (flat l)) (hk : KeepB B0 own ⟨hb, ho, none⟩ w wc) (k p : Nat) (a b : SRec) (ha : l.getD k SRec.zero = a) (hb' : l.getD p SRec.zero = b) (hkl : k < l.length) (hpl : p < l.length) :
    (setRec (setRec wc g k b) g p a).drew.cell? ⟨hb, ho, none⟩ = some S ∧ (setRec (setRec wc g k b) g p a).drew.ownsRow base 114 6 (.slice (some ⟨g, 0, none⟩) n cap) n (flat (swapL l k p)) ∧ KeepB B0 own ⟨hb, ho, none⟩ w (setRec (setRec wc g k b) g p a).drew := by
  refine ⟨?_, ?_, ((hk.setRec hg k b).setRec hg p a).drew⟩
  · have e : ∀ X : World, X.drew.cell? ⟨hb, ho, none⟩ = X.cell? ⟨hb, ho, none⟩ := fun _ => rfl
    rw [e, cell_setRec (by simp; omega), cell_setRec (by simp; omega)]; exact hc
  · unfold swapL
    rw [ha, hb']
    exact (owns_setRec (owns_setRec hown k b hkl) p a (by rw [List.length_set]; exact hpl)).drew

set_option maxRecDepth 100000 in
set_option maxHeartbeats 3200000 in
theorem push_any (hb ho base : Nat) (v : Value) (rs : List SRec) (r : SRec) (w : World)
    (hcell : w.cell? ⟨hb, ho, none⟩ = some v) (hfr : w.frozen? ⟨hb, ho, none⟩ = false) (hlt : hb < base) (hbase : base ≤ w.heap.size)
    (hown : w.ownsRow base 114 6 v rs.length (flat rs)) (hn : rs.length ≤ 1048576) :
    Calls Try.prog 40 #[.pointer (some ⟨hb, ho, none⟩), .agg #[.int .u8 r.side, .int .i64 r.key, .int .i64 r.stamp, .int .i64 r.price, .int .i64 r.id, .int .i64 r.rem]] w fun e w' => e = .returned (.tuple #[]) ∧
      ∃ v', w'.cell? ⟨hb, ho, none⟩ = some v' ∧ w'.ownsRow base 114 6 v' (rs.length + 1) (flat (hpush rs r)) ∧ KeepB w.heap.size v.ownBlock ⟨hb, ho, none⟩ w w' := by
  obtain ⟨i0, hi0, hz0, hz1, hz2⟩ := info_parts info114
  have nh := World.new_ne w _ hcell
  have lh := World.block_lt_of_cell? w _ hcell
  have hag : v.ownBlock ≠ some hb := by
    intro h
    have := (hown.lt _ h).1
    omega
  simp only at nh lh
  have HF : Hid (w.frozen? ⟨hb, ho, none⟩ = false) := hfr
  go_enter Try.func40, Try.ntmps40
  go_wp2_with fail
  go_cut [] (fun x => ∃ g cap, x.cell? ⟨hb, ho, none⟩ = some (.slice (some ⟨g, 0, none⟩) (rs.length + 1) cap) ∧ x.ownsRow base 114 6 (.slice (some ⟨g, 0, none⟩) (rs.length + 1) cap) (rs.length + 1) (flat (rs ++ [r])) ∧ (v.ownBlock = some g ∨ w.heap.size ≤ g) ∧ KeepB w.heap.size v.ownBlock ⟨hb, ho, none⟩ w x)
  case first =>
    go_region_law
      ((refine step_append_lies _ (by rfl) _ _ _ (by rfl) base 114 i0 _ 6 48 Try.underlying90 hi0 hz0 hz1 hz2 rfl (by omega) v rs.length (flat rs) (by rfl) (((hown.alloc _).alloc _).drew)
            ⟨w.heap.size + 1, 0, none⟩ 1 1 r.cells (by rfl) (by rfl) (World.news_of_block (cs := r.cells.toArray) (t := 114) (fr := (0, 0)) (heap_alloc2_new w _ _)) (by simp [SRec.cells, Value.oneCell'])
            (by omega) (by unfold maxLen; omega) (by omega) (by simp; omega) (w.heap.size + 2) (by simp) ?_; intro gg cap w1 hown1 hgrow hat hlt1; have hc1 := far_cell hgrow (two_lt lh) hag (two_cell hcell); have hf1 := far_frozen hgrow (two_lt lh) hag (two_frozen lh HF.out)))
    all_goals
      go_wp2_with fail
      go_meet
      refine ⟨gg, cap, World.cell?_setCell_same _ _ _ hc1, ?_, (by rcases hat with e | e; exact Or.inl e; exact Or.inr (by omega)), ?_⟩
      · rw [flat_snoc]; exact owns_setCell_far hown1 hlt _
      · refine KeepB.setAt (KeepB.grown (KeepB.of_below (bel_two w _ _).drew (Nat.le_refl _)) hgrow (by simp; omega)) _
  case rest =>
    obtain ⟨g, cap, hc, ho2, hgo, hk⟩ := hcut
    have hz : sift rs.length (rs ++ [r]) rs.length = hpush rs r := rfl
    have HZ : Hid (sift rs.length (rs ++ [r]) rs.length = hpush rs r) := hz
    clear hz hcell hfr hown HF hag hi0 hz0 hz1 hz2 nh
    go_wp2_with fail
    go_loopw [5] (fun i x => ∃ (k : Nat) (l : List SRec) (f : Nat), i = .int .i64 k ∧ k ≤ rs.length ∧ l.length = rs.length + 1 ∧ k ≤ f ∧ sift f l k = hpush rs r ∧ x.cell? ⟨hb, ho, none⟩ = some (.slice (some ⟨g, 0, none⟩) (rs.length + 1) cap) ∧
        x.ownsRow base 114 6 (.slice (some ⟨g, 0, none⟩) (rs.length + 1) cap) (rs.length + 1) (flat l) ∧ KeepB w.heap.size v.ownBlock ⟨hb, ho, none⟩ w x) (fun i _ => (intOf i).toNat)
    case atStart => exact ⟨rs.length, rs ++ [r], rs.length, rfl, Nat.le_refl _, by simp, Nat.le_refl _, HZ.out, hc, ho2, hk⟩
    case round =>
      clear hc ho2 hk
      obtain ⟨k, l, f, rfl, hkn, hll, hkf, hs, hc, ho2, hk⟩ := hrel
      have HS : Hid (sift f l k = hpush rs r) := hs
      have HL : Hid (l.length = rs.length + 1) := hll
      clear hs hll
      by_cases h0 : k = 0
      · subst h0
        go_wp2_with fail
        go_end0
        refine ⟨rfl, _, hc, ?_, hk⟩
        have e : l = hpush rs r := by rw [← HS.out]; cases f <;> simp [sift]
        rw [← e]; exact ho2
      · have hkp : (0 : Int) < k := by omega
        go_wp2_with fail
        obtain ⟨p, hp⟩ : ∃ p : Nat, p = (k - 1) / 2 := ⟨_, rfl⟩
        have ep : ((k : Int) - 1) / 2 = (p : Int) := by omega
        rw [ep]
        have hp1 : p < k := by omega
        have HP : Hid ((k - 1) / 2 = p) := hp.symm
        clear ep hp
        obtain ⟨a, ha⟩ : ∃ a, a = l.getD k SRec.zero := ⟨_, rfl⟩
        obtain ⟨b, hb'⟩ : ∃ b, b = l.getD p SRec.zero := ⟨_, rfl⟩
        have HA : Hid (l.getD k SRec.zero = a) := ha.symm
        have HB : Hid (l.getD p SRec.zero = b) := hb'.symm
        have hlg := (ho2.lt g rfl).2
        have hgb := (ho2.lt g rfl).1
        have rk : ∀ j, j < 6 → wr.cell? ⟨g, k * 6 + j, none⟩ = a.cells[j]? := fun j hj => by
          rw [ho2.cellAt _ (by omega), flat_at l k j (by rw [HL.out]; omega) hj, HA.out]
        have rp : ∀ j, j < 6 → wr.cell? ⟨g, p * 6 + j, none⟩ = b.cells[j]? := fun j hj => by
          rw [ho2.cellAt _ (by omega), flat_at l p j (by rw [HL.out]; omega) hj, HB.out]
        have k0 := rk 0 (by omega)
        have k1 := rk 1 (by omega)
        have k2 := rk 2 (by omega)
        have p0 := rp 0 (by omega)
        have p1 := rp 1 (by omega)
        have p2 := rp 2 (by omega)
        simp [SRec.cells] at k0 k1 k2 p0 p1 p2
        clear ha hb' rk rp
        have g1 : (0 : Int) ≤ k := by omega
        have g2 : (k : Int) < rs.length + 1 := by omega
        have g3 : (0 : Int) ≤ p := by omega
        have g4 : (p : Int) < rs.length + 1 := by omega
        go_cut [37] (fun c x => c = .bool (decide (0 ≤ a.cmp b)) ∧ Below wr.heap.size wr x)
        case first =>
          go_region_held3 (fun x => x.cell? ⟨g, k * 6, none⟩ = some (.int .u8 a.side) ∧ x.cell? ⟨g, k * 6 + 1, none⟩ = some (.int .i64 a.key) ∧ x.cell? ⟨g, k * 6 + 2, none⟩ = some (.int .i64 a.stamp) ∧ x.cell? ⟨g, p * 6, none⟩ = some (.int .u8 b.side) ∧ x.cell? ⟨g, p * 6 + 1, none⟩ = some (.int .i64 b.key) ∧ x.cell? ⟨g, p * 6 + 2, none⟩ = some (.int .i64 b.stamp))
            (go_keep)
            ((go_at_call 29; refine (compare_any _ _ _ _ _ _ _).mono ?_; rintro e w' ⟨rfl, hbel⟩; have hw1 := fun o => hbel.cell (p := ⟨g, o, none⟩) hlg))
          all_goals
            go_wp2_with fail
            go_meet
            exact ⟨rfl, (Below.refl _ wr).drew.trans hbel⟩
        case rest =>
          obtain ⟨rfl, hbel⟩ := hcut
          have hc' := (hbel.cell (p := ⟨hb, ho, none⟩) (World.block_lt_of_cell? wr _ hc)).trans hc
          have ho' := owns_below ho2 hbel (Nat.le_refl _)
          have hk' : KeepB w.heap.size v.ownBlock ⟨hb, ho, none⟩ w wc := hk.trans (KeepB.of_below hbel hk.size)
          clear hc ho2 hk k0 k1 k2 p0 p1 p2 hbel
          by_cases hcm : 0 ≤ a.cmp b
          · have hd : decide (0 ≤ a.cmp b) = true := by simpa using hcm
            rw [hd]
            go_wp2_with fail
            go_end0
            refine ⟨rfl, _, hc', ?_, hk'⟩
            have e : l = hpush rs r := by
              rw [← HS.out]
              cases f with
              | zero => omega
              | succ f => rw [sift, if_neg h0, HP.out, HA.out, HB.out, if_pos hcm]
            rw [← e]; exact ho'
          · have hd : decide (0 ≤ a.cmp b) = false := by simpa using hcm
            rw [hd]
            have rk : ∀ j, j < 6 → wc.cell? ⟨g, k * 6 + j, none⟩ = a.cells[j]? := fun j hj => by
              rw [ho'.cellAt _ (by omega), flat_at l k j (by rw [HL.out]; omega) hj, HA.out]
            have rp : ∀ j, j < 6 → wc.cell? ⟨g, p * 6 + j, none⟩ = b.cells[j]? := fun j hj => by
              rw [ho'.cellAt _ (by omega), flat_at l p j (by rw [HL.out]; omega) hj, HB.out]
            have fr : ∀ j, wc.frozen? ⟨g, j, none⟩ = false := fun j => ho'.frozenAt j
            have k0 := rk 0 (by omega)
            have k1 := rk 1 (by omega)
            have k2 := rk 2 (by omega)
            have k3 := rk 3 (by omega)
            have k4 := rk 4 (by omega)
            have k5 := rk 5 (by omega)
            have p0 := rp 0 (by omega)
            have p1 := rp 1 (by omega)
            have p2 := rp 2 (by omega)
            have p3 := rp 3 (by omega)
            have p4 := rp 4 (by omega)
            have p5 := rp 5 (by omega)
            simp [SRec.cells] at k0 k1 k2 k3 k4 k5 p0 p1 p2 p3 p4 p5
            clear rk rp
            go_wp2_with fail
            go_region
            go_wp2_with fail
            go_roundw
            case rel =>
              cases f with
              | zero => omega
              | succ f =>
                have R := swap_rel hlt hgb hgo hc' ho' hk' k p a b HA.out HB.out (by rw [HL.out]; omega) (by rw [HL.out]; omega)
                refine ⟨p, swapL l k p, f, rfl, by omega, by simp [swapL, HL.out], by omega, ?_, R.1, R.2.1, R.2.2⟩
                rw [← HS.out, sift, if_neg h0, HP.out, HA.out, HB.out, if_neg (by omega)]
            case measure => simp [intOf]; omega
end Go.Proofs.Qxb6616641a
