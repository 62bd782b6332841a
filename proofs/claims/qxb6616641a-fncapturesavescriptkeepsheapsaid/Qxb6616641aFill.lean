import Derived.Test.Qxb6616641aLawEnds
set_option linter.unusedVariables false
set_option linter.unusedSimpArgs false
namespace Go.Proofs.Qxb6616641a
open Go.RowKit

theorem step_append_fits {P : Program} {ops : Array Oper} {o : Oper} {a : Act} {w : World} {K : Act → World → Prop} {Q : Exit → Act → World → Prop} {E : Prop}
    (hg : o.guard = none) (s x : Operand) (t : TypeId) (hop : o.op = Op.call { callee := Callee.builtin Builtin.append, args := #[s, x], argTypes := #[t, t] })
    (base : Nat) (e : TypeId) (i : TypeInfo) (size : Nat) (h1 : P.underlying t = some (.slice e)) (h2 : P.info? e = some i) (h4 : i.size = size)
    (g k cap : Nat) (xs : List Value) (hs : a.eval s = .slice (some ⟨g, 0, none⟩) k cap) (hown : w.ownsRow base e size (.slice (some ⟨g, 0, none⟩) k cap) k xs) (ad : Addr) (m c : Nat) (news : List Value) (hx : a.eval x = .slice (some ad) m c) (hn : news.length = m * size)
    (hc : ∀ j u, news[j]? = some u → w.cell? (ad.add j) = some u) (h1c : ∀ u ∈ news, u.oneCell' = true) (b1 : k + m ≤ cap)
    (hK : ∀ w', w'.ownsRow base e size (.slice (some ⟨g, 0, none⟩) (k + m) cap) (k + m) (xs ++ news) → w.grownBy w' (some g) → K (a.put o.dst (.slice (some ⟨g, 0, none⟩) (k + m) cap)) w') :
    if Region.wanted o (yielded ops a.tmps) = true then Oper.wp P o a w K Q else E := by
  have hw : Region.wanted o (yielded ops a.tmps) = true := by simp [Region.wanted, hg]
  rw [if_pos hw]
  obtain ⟨w', hrun, r1, r2⟩ := run_append_fits (P := P) w base t o.type e i size h1 h2 h4 g k cap xs hown ad m c news hn hc h1c b1
  unfold Oper.wp
  simp [execOp, hop, resolve, invoke, builtin, hs, hx, hrun, Result.andThen]
  exact hK w' r1 r2

/-- Of the old blocks only g turns. -/
structure Ch (g : Nat) (x y : World) : Prop where
  size : x.heap.size ≤ y.heap.size
  block : ∀ k, k < x.heap.size → k ≠ g → y.heap[k]? = x.heap[k]?
  bel : ∀ B, B ≤ g → B ≤ x.heap.size → Below B x y

section
variable {g : Nat} {x y : World}
theorem Ch.of_below (h : Below x.heap.size x y) : Ch g x y := ⟨h.size, fun k hk _ => h.block k hk, fun B _ hB => h.mono hB⟩
theorem Ch.setCell (x : World) (g o : Nat) (u : Value) : Ch g x (x.setCell ⟨g, o, none⟩ u) :=
  ⟨by simp [World.setCell], fun k _ hne => heap_setCell_other _ _ _ _ hne, fun B hB _ => (Below.refl B x).setCell hB u⟩
theorem Ch.grown (h : x.grownBy y (some g)) : Ch g x y :=
  ⟨h.size, fun k hk hne => h.block k hk (fun e => hne (by cases e; rfl)), fun B hB hs => (Below.refl B x).grown h hs (fun k hk => by cases hk; exact hB)⟩
theorem Ch.cell (h : Ch g x y) {a : Addr} (ha : a.block < x.heap.size) (hne : a.block ≠ g) : y.cell? a = x.cell? a := World.cell?_of_block (h.block _ ha hne)
theorem Ch.frozen (h : Ch g x y) {a : Addr} (ha : a.block < x.heap.size) (hne : a.block ≠ g) : y.frozen? a = x.frozen? a := World.frozen?_of_block (h.block _ ha hne)
theorem Ch.owns (h : Ch g x y) {base q : Nat} {e : TypeId} {size n cap : Nat} {xs : List Value} (hq : q ≠ g) (ho : x.ownsRow base e size (.slice (some ⟨q, 0, none⟩) n cap) n xs) : y.ownsRow base e size (.slice (some ⟨q, 0, none⟩) n cap) n xs := by
  have hl := (ho.lt q rfl).2
  refine ⟨ho.1, ?_⟩
  rcases ho.2 with ⟨h2, _⟩ | ⟨q', c, cur, hv, hg, hh, r⟩
  · cases h2
  · cases hv
    exact .inr ⟨q, cap, cur, rfl, hg, (h.block q hl hq).trans hh, r⟩
theorem Ch.cap (h : Ch g x y) {c : Nat} {seq n : Int} {cur : Option Addr} {ls lk lt : Int} (hc : CapAt x c seq n cur ls lk lt) (hl : c < x.heap.size) (hne : c ≠ g) : CapAt y c seq n cur ls lk lt :=
  ⟨(h.cell (a := ⟨c, 0, none⟩) hl hne).trans hc.seq, (h.cell (a := ⟨c, 1, none⟩) hl hne).trans hc.n, (h.cell (a := ⟨c, 6, none⟩) hl hne).trans hc.cur, (h.cell (a := ⟨c, 7, none⟩) hl hne).trans hc.ls, (h.cell (a := ⟨c, 8, none⟩) hl hne).trans hc.lk, (h.cell (a := ⟨c, 9, none⟩) hl hne).trans hc.lt⟩
theorem Ch.ord (h : Ch g x y) {o l : Nat} {id sd price rem stamp saved : Int} (hc : OrdAt x o l id sd price rem stamp saved) (ho : o < x.heap.size) (hl : l < x.heap.size) (hn1 : o ≠ g) (hn2 : l ≠ g) : OrdAt y o l id sd price rem stamp saved :=
  ⟨(h.cell (a := ⟨o, 0, none⟩) ho hn1).trans hc.id, (h.cell (a := ⟨o, 1, none⟩) ho hn1).trans hc.sd, (h.cell (a := ⟨o, 2, none⟩) ho hn1).trans hc.rem, (h.cell (a := ⟨o, 3, none⟩) ho hn1).trans hc.stamp, (h.cell (a := ⟨o, 4, none⟩) ho hn1).trans hc.saved, (h.cell (a := ⟨o, 5, none⟩) ho hn1).trans hc.level, (h.cell (a := ⟨l, 0, none⟩) hl hn2).trans hc.price, (h.frozen (a := ⟨o, 4, none⟩) ho hn1).trans hc.free⟩
theorem Ch.book (h : Ch g x y) {b : Nat} {rd : Int} {v : Value} (hc : BookAt x b rd v) (hl : b < x.heap.size) (hne : b ≠ g) : BookAt y b rd v :=
  ⟨(h.cell (a := ⟨b, 2, none⟩) hl hne).trans hc.buy, (h.cell (a := ⟨b, 11, none⟩) hl hne).trans hc.sell, (h.cell (a := ⟨b, 31, none⟩) hl hne).trans hc.read, (h.cell (a := ⟨b, 32, none⟩) hl hne).trans hc.saved, (h.frozen (a := ⟨b, 32, none⟩) hl hne).trans hc.free⟩
end

/-- The blocks of the law: the position's box, the book, the capture, the three rows. -/
structure Bl where
  p : Nat
  b : Nat
  cp : Nat
  gO : Nat
  gS : Nat
  gW : Nat

/-- Half way through the filling: so many orders made, laid into 'objs', judged, wanted. -/
structure Fill (C : Cfg) (os : List Ord6) (w : World) (q : Bl) (ob lv : Nat → Nat) (kR kO kS kW : Nat) (x : World) : Prop where
  bel : Below w.heap.size w x
  ls : x.cell? ⟨q.p, 0, none⟩ = some (.int .u8 C.ls)
  lk : x.cell? ⟨q.p, 1, none⟩ = some (.int .i64 C.lk)
  lt : x.cell? ⟨q.p, 2, none⟩ = some (.int .i64 C.lt)
  cap : CapAt x q.cp C.seq C.n (curOf C.cc q.b) C.ls C.lk C.lt
  book : BookAt x q.b C.rd (.slice none 0 0)
  objs : ∃ xs, x.ownsRow w.heap.size 42 1 (.slice (some ⟨q.gO, 0, none⟩) os.length os.length) os.length xs ∧ ∀ j, j < kO → xs[j]? = some (.pointer (some ⟨ob j, 0, none⟩))
  saves : ∃ xs, x.ownsRow w.heap.size 4 1 (.slice (some ⟨q.gS, 0, none⟩) os.length os.length) os.length xs ∧ ∀ j, j < kS → xs[j]? = some (.bool (C.must (os.getD j Ord6.zero)))
  want : x.ownsRow w.heap.size 57 6 (.slice (some ⟨q.gW, 0, none⟩) (C.want (os.take kW)).length os.length) (C.want (os.take kW)).length (flat (C.want (os.take kW)))
  ords : ∀ j, j < kR → OrdAt x (ob j) (lv j) (os.getD j Ord6.zero).id (os.getD j Ord6.zero).sd (os.getD j Ord6.zero).price (os.getD j Ord6.zero).rem (os.getD j Ord6.zero).stamp (os.getD j Ord6.zero).saved
  fam : ∀ j, j < kR → q.gW < lv j ∧ lv j + 1 = ob j ∧ ob j < x.heap.size ∧ ∀ i, i < j → ob i < lv j
  o0 : w.heap.size ≤ q.p
  o1 : q.p < q.b
  o2 : q.b < q.cp
  o3 : q.cp < q.gO
  o4 : q.gO < q.gS
  o5 : q.gS < q.gW
  o6 : q.gW < x.heap.size

section
variable {C : Cfg} {os : List Ord6} {w : World} {q : Bl} {ob lv : Nat → Nat} {kR kO kS kW : Nat} {x y : World}

theorem Fill.below (h : Fill C os w q ob lv kR kO kS kW x) (hb : Below x.heap.size x y) : Fill C os w q ob lv kR kO kS kW y := by
  have c : Ch x.heap.size x y := Ch.of_below hb
  have p1 := h.o1; have p2 := h.o2; have p3 := h.o3; have p4 := h.o4; have p5 := h.o5; have p6 := h.o6
  have s := hb.size
  obtain ⟨xs, hx, hx'⟩ := h.objs
  obtain ⟨ys, hy, hy'⟩ := h.saves
  exact ⟨h.bel.trans (hb.mono h.bel.size), (c.cell (a := ⟨q.p, 0, none⟩) (by simp; omega) (by simp; omega)).trans h.ls, (c.cell (a := ⟨q.p, 1, none⟩) (by simp; omega) (by simp; omega)).trans h.lk, (c.cell (a := ⟨q.p, 2, none⟩) (by simp; omega) (by simp; omega)).trans h.lt,
    c.cap h.cap (by omega) (by omega), c.book h.book (by omega) (by omega), ⟨xs, owns_below hx hb (Nat.le_refl _), hx'⟩, ⟨ys, owns_below hy hb (Nat.le_refl _), hy'⟩, owns_below h.want hb (Nat.le_refl _),
    fun j hj => c.ord (h.ords j hj) (h.fam j hj).2.2.1 (by have := h.fam j hj; omega) (by have := h.fam j hj; omega) (by have := h.fam j hj; omega),
    fun j hj => ⟨(h.fam j hj).1, (h.fam j hj).2.1, by have := (h.fam j hj).2.2.1; omega, (h.fam j hj).2.2.2⟩, h.o0, h.o1, h.o2, h.o3, h.o4, h.o5, by omega⟩

/-- One more order. -/
theorem Fill.addOrd (h : Fill C os w q ob lv kR kR kS kW x) (l : Nat) (hl : q.gW < l) (hold : ∀ i, i < kR → ob i < l) (hs : l + 1 < x.heap.size)
    (hO : OrdAt x (l + 1) l (os.getD kR Ord6.zero).id (os.getD kR Ord6.zero).sd (os.getD kR Ord6.zero).price (os.getD kR Ord6.zero).rem (os.getD kR Ord6.zero).stamp (os.getD kR Ord6.zero).saved) :
    Fill C os w q (fun j => if j = kR then l + 1 else ob j) (fun j => if j = kR then l else lv j) (kR + 1) kR kS kW x := by
  obtain ⟨xs, hx, hx'⟩ := h.objs
  refine { h with objs := ⟨xs, hx, fun j hj => ?_⟩, ords := fun j hj => ?_, fam := fun j hj => ?_ }
  · simp only [if_neg (show ¬ j = kR by omega)]; exact hx' j hj
  · by_cases e : j = kR
    · subst e; simp only [if_pos]; exact hO
    · simp only [if_neg e]; exact h.ords j (by omega)
  · by_cases e : j = kR
    · subst e
      simp only [if_pos]
      refine ⟨hl, trivial, hs, fun i hi => ?_⟩
      rw [if_neg (by omega)]; exact hold i hi
    · simp only [if_neg e]
      have := h.fam j (by omega)
      refine ⟨this.1, this.2.1, this.2.2.1, fun i hi => ?_⟩
      rw [if_neg (by omega)]; exact this.2.2.2 i hi

theorem Fill.ch (h : Fill C os w q ob lv kR kO kS kW x) {g : Nat} (hg : g = q.gO ∨ g = q.gS ∨ g = q.gW) (c : Ch g x y) 
    (hx : ∃ xs, y.ownsRow w.heap.size 42 1 (.slice (some ⟨q.gO, 0, none⟩) os.length os.length) os.length xs ∧ ∀ j, j < kO → xs[j]? = some (.pointer (some ⟨ob j, 0, none⟩)))
    (hy : ∃ xs, y.ownsRow w.heap.size 4 1 (.slice (some ⟨q.gS, 0, none⟩) os.length os.length) os.length xs ∧ ∀ j, j < kS → xs[j]? = some (.bool (C.must (os.getD j Ord6.zero))))
    (hw : y.ownsRow w.heap.size 57 6 (.slice (some ⟨q.gW, 0, none⟩) (C.want (os.take kW)).length os.length) (C.want (os.take kW)).length (flat (C.want (os.take kW)))) : Fill C os w q ob lv kR kO kS kW y := by
  have p0 := h.o0; have p1 := h.o1; have p2 := h.o2; have p3 := h.o3; have p4 := h.o4; have p5 := h.o5; have p6 := h.o6
  have s := c.size
  exact ⟨h.bel.trans (c.bel _ (by omega) (by omega)), (c.cell (a := ⟨q.p, 0, none⟩) (by simp; omega) (by simp; omega)).trans h.ls, (c.cell (a := ⟨q.p, 1, none⟩) (by simp; omega) (by simp; omega)).trans h.lk, (c.cell (a := ⟨q.p, 2, none⟩) (by simp; omega) (by simp; omega)).trans h.lt,
    c.cap h.cap (by omega) (by omega), c.book h.book (by omega) (by omega), hx, hy, hw,
    fun j hj => c.ord (h.ords j hj) (h.fam j hj).2.2.1 (by have := h.fam j hj; omega) (by have := h.fam j hj; omega) (by have := h.fam j hj; omega),
    fun j hj => ⟨(h.fam j hj).1, (h.fam j hj).2.1, by have := (h.fam j hj).2.2.1; omega, (h.fam j hj).2.2.2⟩, h.o0, h.o1, h.o2, h.o3, h.o4, h.o5, by omega⟩

theorem Fill.setObj (h : Fill C os w q ob lv kR kO kS kW x) (hk : kO < os.length) : Fill C os w q ob lv kR (kO + 1) kS kW (x.setCell ⟨q.gO, kO, none⟩ (.pointer (some ⟨ob kO, 0, none⟩))) := by
  have p4 := h.o4; have p5 := h.o5
  obtain ⟨xs, hx, hx'⟩ := h.objs
  obtain ⟨ys, hy, hy'⟩ := h.saves
  have c := Ch.setCell x q.gO kO (.pointer (some ⟨ob kO, 0, none⟩))
  have h' : Fill C os w q ob lv kR kO kS kW (x.setCell ⟨q.gO, kO, none⟩ (.pointer (some ⟨ob kO, 0, none⟩))) :=
    h.ch (.inl rfl) c ⟨_, (hx.stored kO _).1, fun j hj => by rw [List.getElem?_set_ne (by omega)]; exact hx' j hj⟩ ⟨ys, c.owns (by omega) hy, hy'⟩ (c.owns (by omega) h.want)
  refine { h' with objs := ⟨_, (hx.stored kO _).1, fun j hj => ?_⟩ }
  by_cases e : j = kO
  · subst e
    rw [List.getElem?_set_self (by rw [hx.1]; omega)]
  · rw [List.getElem?_set_ne (by omega)]; exact hx' j (by omega)

theorem Fill.setSave (h : Fill C os w q ob lv kR kO kS kW x) (hk : kS < os.length) : Fill C os w q ob lv kR kO (kS + 1) kW (x.setCell ⟨q.gS, kS, none⟩ (.bool (C.must (os.getD kS Ord6.zero)))) := by
  have p4 := h.o4; have p5 := h.o5
  obtain ⟨xs, hx, hx'⟩ := h.objs
  obtain ⟨ys, hy, hy'⟩ := h.saves
  have c := Ch.setCell x q.gS kS (.bool (C.must (os.getD kS Ord6.zero)))
  have h' : Fill C os w q ob lv kR kO kS kW (x.setCell ⟨q.gS, kS, none⟩ (.bool (C.must (os.getD kS Ord6.zero)))) :=
    h.ch (.inr (.inl rfl)) c ⟨xs, c.owns (by omega) hx, hx'⟩ ⟨_, (hy.stored kS _).1, fun j hj => by rw [List.getElem?_set_ne (by omega)]; exact hy' j hj⟩ (c.owns (by omega) h.want)
  refine { h' with saves := ⟨_, (hy.stored kS _).1, fun j hj => ?_⟩ }
  by_cases e : j = kS
  · subst e
    rw [List.getElem?_set_self (by rw [hy.1]; omega)]
  · rw [List.getElem?_set_ne (by omega)]; exact hy' j (by omega)

theorem Fill.skip (h : Fill C os w q ob lv kR kO kS kW x) (hk : kW < os.length) (hm : C.must (os.getD kW Ord6.zero) = false) : Fill C os w q ob lv kR kO kS (kW + 1) x := by
  refine { h with want := ?_ }
  rw [want_no C os kW hk hm]; exact h.want

theorem Fill.append (h : Fill C os w q ob lv kR kO kS kW x) (hk : kW < os.length) (hm : C.must (os.getD kW Ord6.zero) = true) (hg : x.grownBy y (some q.gW))
    (ho : y.ownsRow w.heap.size 57 6 (.slice (some ⟨q.gW, 0, none⟩) ((C.want (os.take kW)).length + 1) os.length) ((C.want (os.take kW)).length + 1) (flat (C.want (os.take kW)) ++ (os.getD kW Ord6.zero).toRec.cells)) : Fill C os w q ob lv kR kO kS (kW + 1) y := by
  have p4 := h.o4; have p5 := h.o5
  obtain ⟨xs, hx, hx'⟩ := h.objs
  obtain ⟨ys, hy, hy'⟩ := h.saves
  have c : Ch q.gW x y := Ch.grown hg
  have h1 : Fill C os w q ob lv kR kO kS (kW + 1) y := by
    have e := want_yes C os kW hk hm
    have s := c.size
    have p0 := h.o0; have p1 := h.o1; have p2 := h.o2; have p3 := h.o3; have p6 := h.o6
    exact ⟨h.bel.trans (c.bel _ (by omega) (by omega)), (c.cell (a := ⟨q.p, 0, none⟩) (by simp; omega) (by simp; omega)).trans h.ls, (c.cell (a := ⟨q.p, 1, none⟩) (by simp; omega) (by simp; omega)).trans h.lk, (c.cell (a := ⟨q.p, 2, none⟩) (by simp; omega) (by simp; omega)).trans h.lt,
      c.cap h.cap (by omega) (by omega), c.book h.book (by omega) (by omega), ⟨xs, c.owns (by omega) hx, hx'⟩, ⟨ys, c.owns (by omega) hy, hy'⟩, by rw [e, flat_snoc, List.length_append]; exact ho,
      fun j hj => c.ord (h.ords j hj) (h.fam j hj).2.2.1 (by have := h.fam j hj; omega) (by have := h.fam j hj; omega) (by have := h.fam j hj; omega),
      fun j hj => ⟨(h.fam j hj).1, (h.fam j hj).2.1, by have := (h.fam j hj).2.2.1; omega, (h.fam j hj).2.2.2⟩, h.o0, h.o1, h.o2, h.o3, h.o4, h.o5, by omega⟩
  exact h1
end
end Go.Proofs.Qxb6616641a
