import Derived.Test.Qxb6616641aLaid
import Derived.BigQuiet
import Derived.Laws.StructEq
set_option linter.unusedVariables false
set_option linter.unusedSimpArgs false
namespace Go.Proofs.Qxb6616641a
open Go.RowKit

theorem info42 : (Try.prog.info? 42).map (fun i => (i.zero, i.size, i.bytes)) = some (some (.pointer none), 1, 8) := by kernel_rfl
theorem info4 : (Try.prog.info? 4).map (fun i => (i.zero, i.size, i.bytes)) = some (some (.bool false), 1, 1) := by kernel_rfl

theorem step_call {P : Program} {ops : Array Oper} {o : Oper} {a : Act} {w : World} {K : Act → World → Prop} {Q : Exit → Act → World → Prop} {E : Prop} (hg : o.guard = none)
    (f : FuncId) (args : Array Value) (hrun : (execOp a.eval o).run P w = .ok (.enter f args) w) (v : Value) (hc : Calls P f args w fun e w'' => e = .returned v ∧ w'' = w) (h : K (a.put o.dst v) w) :
    if Region.wanted o (yielded ops a.tmps) = true then Oper.wp P o a w K Q else E := by
  have hw : Region.wanted o (yielded ops a.tmps) = true := by simp [Region.wanted, hg]
  rw [if_pos hw]
  unfold Oper.wp
  rw [hrun, Oper.upon_enter]
  refine hc.mono fun e w'' hh => ?_
  obtain ⟨rfl, rfl⟩ := hh
  exact h
theorem Ch.box {g : Nat} {x y : World} (h : Ch g x y) {b : Nat} {id sd price rem stamp saved : Int} (hc : BoxAt x b id sd price rem stamp saved) (hl : b < x.heap.size) (hne : b ≠ g) : BoxAt y b id sd price rem stamp saved :=
  ⟨(h.cell (a := ⟨b, 0, none⟩) hl hne).trans hc.id, (h.cell (a := ⟨b, 1, none⟩) hl hne).trans hc.sd, (h.cell (a := ⟨b, 2, none⟩) hl hne).trans hc.price, (h.cell (a := ⟨b, 3, none⟩) hl hne).trans hc.rem, (h.cell (a := ⟨b, 4, none⟩) hl hne).trans hc.stamp, (h.cell (a := ⟨b, 5, none⟩) hl hne).trans hc.saved⟩
theorem Fill.objCell {C : Cfg} {os : List Ord6} {w : World} {q : Bl} {ob lv : Nat → Nat} {kR kO kS kW : Nat} {x : World} (h : Fill C os w q ob lv kR kO kS kW x) (k : Nat) (hk : k < os.length) : ∃ u, x.cell? ⟨q.gO, k, none⟩ = some u ∧ x.frozen? ⟨q.gO, k, none⟩ = false := by
  obtain ⟨xs, hx, _⟩ := h.objs
  have : k < xs.length := by rw [hx.1]; omega
  exact ⟨xs[k], by rw [hx.cellAt k (by omega), List.getElem?_eq_getElem this], hx.frozenAt k⟩
theorem Fill.saveCell {C : Cfg} {os : List Ord6} {w : World} {q : Bl} {ob lv : Nat → Nat} {kR kO kS kW : Nat} {x : World} (h : Fill C os w q ob lv kR kO kS kW x) (k : Nat) (hk : k < os.length) : ∃ u, x.cell? ⟨q.gS, k, none⟩ = some u ∧ x.frozen? ⟨q.gS, k, none⟩ = false := by
  obtain ⟨xs, hx, _⟩ := h.saves
  have : k < xs.length := by rw [hx.1]; omega
  exact ⟨xs[k], by rw [hx.cellAt k (by omega), List.getElem?_eq_getElem this], hx.frozenAt k⟩
theorem fill_order {C : Cfg} {os : List Ord6} {w : World} {q : Bl} {ob lv : Nat → Nat} {k : Nat} {x y : World} {o : Ord6} {ob0 : Obj} (h : Fill C os w q ob lv k k k k x) (ho : os.getD k Ord6.zero = o)
    (hO : OrdAt y (x.heap.size + 1 + 1) (x.heap.size + 1) o.id o.sd o.price o.rem o.stamp o.saved) (hb : Below (x.alloc ob0).heap.size (x.alloc ob0) y) (hz : y.heap.size = x.heap.size + 1 + 2) :
    ∃ ob' lv' : Nat → Nat, ob' k = x.heap.size + 1 + 1 ∧ Fill C os w q ob' lv' (k + 1) k k k y := by
  have h2 : Fill C os w q ob lv k k k k y := (h.below ((Below.refl _ x).alloc (Nat.le_refl _) ob0)).below hb
  have o6 := h.o6
  refine ⟨_, _, ?_, h2.addOrd (x.heap.size + 1) (by omega) (fun i hi => by have := (h.fam i hi).2.2.1; omega) (by omega) (by rw [ho]; exact hO)⟩
  simp

theorem eq57 (r : SRec) (w : World) : (Op.equalIn 10000 57 (.agg #[.int .u8 r.side, .int .i64 r.key, .int .i64 r.stamp, .int .i64 r.price, .int .i64 r.id, .int .i64 r.rem]) (.agg #[.int .u8 r.side, .int .i64 r.key, .int .i64 r.stamp, .int .i64 r.price, .int .i64 r.id, .int .i64 r.rem])).run Try.prog w = .ok true w := by
  have u5 := Try.underlying5
  have a5 := Try.isAgg5
  have z5 := Try.sizeOf5
  have u2 := Try.underlying2
  have a2 := Try.isAgg2
  have z2 := Try.sizeOf2
  have hS : Try.prog.underlying 57 = some (.struct (Try.prog.fieldsOf 57)) := by kernel_rfl
  rw [show (10000 : Nat) = 9999 + 1 from rfl, run_equalIn_agg w 9999 57 _ _ hS (by kernel_rfl)]
  simp only [Program.fieldsOf, Try.underlying57]
  go_simp

theorem put_rec {base g n cap : Nat} {y0 x : World} {G : List SRec} (hb : Below y0.heap.size y0 x) (h : x.ownsRow base 57 6 (.slice (some ⟨g, 0, none⟩) n cap) n (flat G)) (k : Nat) (r : SRec) (hk : k < G.length) (hg : y0.heap.size ≤ g) :
    Below y0.heap.size y0 (setRec x g k r) ∧ (setRec x g k r).ownsRow base 57 6 (.slice (some ⟨g, 0, none⟩) n cap) n (flat (G.set k r)) := by
  refine ⟨?_, owns_setRec h k r hk⟩
  unfold setRec
  exact (((((hb.setCell (by exact hg) _).setCell (by exact hg) _).setCell (by exact hg) _).setCell (by exact hg) _).setCell (by exact hg) _).setCell (by exact hg) _

theorem heap_facts (C : Cfg) (os : List Ord6) (N : Nat) (h : N ≤ 16384) (hN : os.length = N) (h64 : ∀ i, i < N → I64 (os.getD i Ord6.zero).price ∧ I64 (os.getD i Ord6.zero).stamp) :
    ((C.want (os.take N)).foldl hpush []).length = (C.want (os.take N)).length ∧ ((C.want (os.take N)).foldl hpush []).Perm (C.want os) ∧ HeapL ((C.want (os.take N)).foldl hpush []) ∧ (∀ r ∈ (C.want (os.take N)).foldl hpush [], r.ok) ∧ (∀ r ∈ C.want os, r.ok) := by
  subst hN
  rw [List.take_length]
  have hp : ((C.want os).foldl hpush []).Perm (C.want os) := by simpa using foldl_hpush (C.want os) []
  have hw : ∀ r ∈ C.want os, r.ok := by
    intro r hr
    unfold Cfg.want at hr
    obtain ⟨o, ho, rfl⟩ := List.mem_map.1 hr
    obtain ⟨i, hi, e⟩ := List.mem_iff_getElem.1 (List.mem_filter.1 ho).1
    have := h64 i hi
    have e2 : os.getD i Ord6.zero = o := by simp [hi, e]
    rw [e2] at this
    exact ⟨keyV_i64 _ _ this.1, this.2⟩
  exact ⟨hp.length_eq, hp, foldl_heap _ _ (fun i h0 hi => by simp at hi), fun r hr => hw r (hp.mem_iff.1 hr), hw⟩

theorem fill_start (C : Cfg) (os : List Ord6) (N : Nat) (w w1 w2 w3 w4 w5 w6 : World) (xs ys : List Value) (hN : os.length = N) (z1 : w.heap.size < w1.heap.size) (bel1 : Below w.heap.size w w1)
    (p0 : w2.cell? ⟨w.heap.size, 0, none⟩ = some (.int .u8 C.ls)) (p1 : w2.cell? ⟨w.heap.size, 1, none⟩ = some (.int .i64 C.lk)) (p2 : w2.cell? ⟨w.heap.size, 2, none⟩ = some (.int .i64 C.lt))
    (hB : BookAt w2 w1.heap.size C.rd (.slice none 0 0)) (b2 : Below w1.heap.size w1 w2) (z2 : w2.heap.size = w1.heap.size + 1)
    (hC : CapAt w3 w2.heap.size C.seq C.n (curOf C.cc w1.heap.size) C.ls C.lk C.lt) (b3 : Below w2.heap.size w2 w3) (z3 : w3.heap.size = w2.heap.size + 1)
    (r4 : w4.ownsRow w.heap.size 42 1 (.slice (some ⟨w3.heap.size, 0, none⟩) N N) N xs) (g4 : w3.grownBy w4 none)
    (r5 : w5.ownsRow w.heap.size 4 1 (.slice (some ⟨w4.heap.size, 0, none⟩) N N) N ys) (g5 : w4.grownBy w5 none)
    (r6 : w6.ownsRow w.heap.size 57 6 (.slice (some ⟨w5.heap.size, 0, none⟩) 0 N) 0 []) (g6 : w5.grownBy w6 none) :
    Fill C os w ⟨w.heap.size, w1.heap.size, w2.heap.size, w3.heap.size, w4.heap.size, w5.heap.size⟩ (fun _ => 0) (fun _ => 0) 0 0 0 0 w6 := by
  subst hN
  have l4 := (r4.lt _ rfl).2
  have l5 := (r5.lt _ rfl).2
  have l6 := (r6.lt _ rfl).2
  have q4 : Below w3.heap.size w3 w4 := belG (Below.refl _ _) g4 (Nat.le_refl _)
  have q5 : Below w4.heap.size w4 w5 := belG (Below.refl _ _) g5 (Nat.le_refl _)
  have q6 : Below w5.heap.size w5 w6 := belG (Below.refl _ _) g6 (Nat.le_refl _)
  have s4 := q4.size; have s5 := q5.size; have s6 := q6.size
  have t : Below w3.heap.size w3 w6 := (q4.trans (q5.mono s4)).trans (q6.mono (by omega))
  have t2 : Below w2.heap.size w2 w6 := b3.trans (t.mono b3.size)
  refine ⟨(bel1.trans (b2.mono (by omega))).trans (t2.mono (by omega)), (t2.cell (p := ⟨w.heap.size, 0, none⟩) (by simp; omega)).trans p0, (t2.cell (p := ⟨w.heap.size, 1, none⟩) (by simp; omega)).trans p1, (t2.cell (p := ⟨w.heap.size, 2, none⟩) (by simp; omega)).trans p2,
    hC.below t (by omega), hB.below t2 (by omega), ⟨xs, owns_below (owns_below r4 q5 (Nat.le_refl _)) q6 (Nat.le_refl _), fun j hj => by omega⟩, ⟨ys, owns_below r5 q6 (Nat.le_refl _), fun j hj => by omega⟩, r6, fun j hj => by omega, fun j hj => by omega,
    Nat.le_refl _, z1, by simp only; omega, by simp only; omega, by simp only; omega, by simp only; omega, l6⟩

/-! A finished piece of a walk as a lemma of its own: 'omega' lays its proof apart, and the kernel looks at each piece by itself (less memory at once). -/
noncomputable def pieceFlag (p : Prop) : Nat := @ite Nat p (Classical.propDecidable p) 1 0
theorem piece_one {p : Prop} (h : p) : pieceFlag p = 1 := if_pos h
theorem piece_shut {p : Prop} (k : Hid (pieceFlag p = 0) → False) : p :=
  Classical.byContradiction fun h => k (hidP (if_neg h))
theorem piece_lay {p : Prop} (_ : Hid (pieceFlag p = 0)) (h : p) : pieceFlag p = 1 := piece_one h
attribute [irreducible] pieceFlag

set_option maxRecDepth 100000 in
set_option maxHeartbeats 8000000 in
theorem law5_main (C : Cfg) (os : List Ord6) (sp : Option Addr) (N cap gs off : Nat) (w : World) (hN : os.length = N) (h : N ≤ 16384) (hsp : 0 < N → sp = some ⟨gs, off, none⟩) (hin : InAt os gs off w)
    (hok : ∀ i, i < N → (os.getD i Ord6.zero).sd = 1 ∨ (os.getD i Ord6.zero).sd = 2) (hi64 : ∀ i, i < N → I64 (os.getD i Ord6.zero).price ∧ I64 (os.getD i Ord6.zero).stamp) (hlk : I64 C.lk) (hlt : I64 C.lt) :
    Calls Try.prog 9 #[.int .i64 C.seq, .int .u64 C.n, .int .u64 C.rd, .bool C.cc, .agg #[.int .u8 C.ls, .int .i64 C.lk, .int .i64 C.lt], .slice sp N cap] w fun e w' => e = .returned (.bool true) ∧ Below w.heap.size w w' := by
  obtain ⟨i42, e42, z42, s42, y42⟩ := info_parts info42
  obtain ⟨i4, e4, z4, s4, y4⟩ := info_parts info4
  obtain ⟨i57, e57, z57, s57, y57⟩ := info_parts info57
  have h1 : ¬ (16384 : Int) < N := by omega
  have h2 : N ≤ 1048576 := by omega
  have m1 : i42.bytes * N ≤ 281474976710656 := by rw [y42]; omega
  have m2 : i4.bytes * N ≤ 281474976710656 := by rw [y4]; omega
  have m3 : i57.bytes * N ≤ 281474976710656 := by rw [y57]; omega
  have m4 : N ≤ maxLen := by unfold maxLen; omega
  have HN := hidP hN
  have HI := hidP hin
  have HOK := hidP hok
  have H64 := hidP hi64
  have HL := hidP (And.intro hlk hlt)
  have HSP := hidP hsp
  clear hN hin hok hi64 hlk hlt hsp
  go_enter Try.func9, Try.ntmps9
  go_wp2_with fail
  refine (bytes27_any _ _ _ _ _ _ _ _ _ _ _ h2).mono ?_
  rintro e w1 ⟨rfl, hb⟩
  have l0 := (hb.cell (p := ⟨w.heap.size, 0, none⟩) (by simp)).trans (show _ = some (.int .u8 C.ls) by simp)
  have l1 := (hb.cell (p := ⟨w.heap.size, 1, none⟩) (by simp)).trans (show _ = some (.int .i64 C.lk) by simp)
  have l2 := (hb.cell (p := ⟨w.heap.size, 2, none⟩) (by simp)).trans (show _ = some (.int .i64 C.lt) by simp)
  have HZ1 := hidP (show w.heap.size < w1.heap.size by have := hb.size; simp at this; omega)
  have hbel : Below w.heap.size w w1 := ((Below.refl _ _).alloc (Nat.le_refl _) _).trans (hb.mono (by simp))
  have HI1 := hidP (HI.out.below hbel (Nat.le_refl _))
  have HW := hidP hbel
  clear hb hbel
  go_wp2_with fail
  go_loopw [13] (fun i x => ∃ k : Nat, i = .int .i64 k ∧ k ≤ N ∧ w1 = x) (fun i _ => N - (intOf i).toNat)
  case atStart => exact ⟨0, rfl, by omega, rfl⟩
  case round =>
    obtain ⟨k, rfl, hk, rfl⟩ := hrel
    by_cases hkn : k < N
    case pos =>
      refine piece_shut fun hpiece => ?_
      letI hlaid := piece_lay hpiece (by
        clear hpiece
        have hkN : (k : Int) < N := by omega
        have hk0 : (0 : Int) ≤ k := by omega
        have hs := HSP.out (by omega)
        subst hs
        have hc : w1.cell? ⟨gs, off + k * 6 + 1, none⟩ = some (.int .u8 (os.getD k Ord6.zero).sd) := HI1.out.cells k (by rw [HN.out]; omega) 1 (by omega)
        have b0 := HOK.out k hkn
        generalize (os.getD k Ord6.zero).sd = s at hc b0
        rcases b0 with rfl | rfl
        · go_wp2_with fail
          exact ⟨⟨k + 1, by simp, by omega, trivial⟩, by simp [intOf]; omega⟩
        · go_wp2_with fail
          exact ⟨⟨k + 1, by simp, by omega, trivial⟩, by simp [intOf]; omega⟩)
      have hzero := hpiece.out
      omega
    case neg =>
    have hkN : ¬ (k : Int) < N := by omega
    go_wp2_with fail
    refine (newBook_at _ _ C.rd _).mono ?_
    rintro e w2 ⟨rfl, hB, hb2, z2⟩
    have HB2 := hidP hB
    have HZ2 := hidP z2
    have HW2 := hidP hb2
    have q0 := (hb2.cell (p := ⟨w.heap.size, 0, none⟩) HZ1.out).trans l0
    have q1 := (hb2.cell (p := ⟨w.heap.size, 1, none⟩) HZ1.out).trans l1
    have q2 := (hb2.cell (p := ⟨w.heap.size, 2, none⟩) HZ1.out).trans l2
    clear hB hb2 z2 l0 l1 l2
    go_upto_if 73 with fail
    go_cut [3, 15] (fun c p x => c = .bool C.cc ∧ p = .pointer (curOf C.cc w1.heap.size) ∧ w2 = x)
    case first =>
      cases hcc : C.cc
      all_goals
        go_wp2_with fail
        go_meet
        exact ⟨by rw [hcc], by rw [hcc]; rfl, rfl⟩
    case rest =>
    obtain ⟨rfl, rfl, rfl⟩ := hcut
    go_wp2_with (first
      | (go_at_call 19; refine (newCapture_at _ _ _ _ _ _ _).mono ?_; rintro e w3 ⟨rfl, hC, hb3, z3⟩; have HC3 := hidP hC; have HZ3 := hidP z3; have HW3 := hidP hb3; clear hC z3 hb3; have HS3 := hidP (show w.heap.size ≤ w3.heap.size by have := HZ1.out; have := HZ2.out; have := HZ3.out; omega))
      | (at_make; refine wpList_make_full _ rfl _ _ 53 rfl w.heap.size 42 i42 _ 1 Try.underlying53 e42 z42 s42 .i64 .i64 _ _ N rfl rfl rfl rfl m1 m4 HS3.out ?_; intro w4 hown4 hgrow4; have HR4 := hidP hown4; have HG4 := hidP hgrow4; clear hown4 hgrow4)
      | (at_make; refine wpList_make_full _ rfl _ _ 54 rfl w.heap.size 4 i4 _ 1 Try.underlying54 e4 z4 s4 .i64 .i64 _ _ N rfl rfl rfl rfl m2 m4 (Nat.le_trans HS3.out HG4.out.size) ?_; intro w5 hown5 hgrow5; have HR5 := hidP hown5; have HG5 := hidP hgrow5; clear hown5 hgrow5)
      | (at_make; refine wpList_make_own _ rfl _ _ 55 rfl w.heap.size 57 i57 _ 6 Try.underlying55 e57 z57 s57 .i64 .i64 _ N rfl rfl rfl m3 m4 (Nat.le_trans (Nat.le_trans HS3.out HG4.out.size) HG5.out.size) ?_; intro w6 hown6 hgrow6; have HR6 := hidP hown6; have HG6 := hidP hgrow6; clear hown6 hgrow6))
    have F0 := fill_start C os N w w1 w2 w3 w4 w5 w6 _ _ HN.out HZ1.out HW.out q0 q1 q2 HB2.out HW2.out HZ2.out HC3.out HW3.out HZ3.out HR4.out HG4.out HR5.out HG5.out HR6.out HG6.out
    clear HW2 HZ2 HC3 HW3 HZ3 HR4 HG4 HR5 HG5 HR6 HG6 HS3 HB2 q0 q1 q2 HZ1 HW HI1 hkN hkn hk m1 m2 m3 m4 e42 z42 s42 y42 e4 z4 s4 y4
    generalize w1.heap.size = B1, w2.heap.size = B2, w3.heap.size = B3, w4.heap.size = B4, w5.heap.size = B5 at F0 ⊢
    go_loopw [19, 20] (fun v i x => ∃ (k : Nat) (ob lv : Nat → Nat), v = .slice (some ⟨B5, 0, none⟩) (C.want (os.take k)).length N ∧ i = .int .i64 k ∧ k ≤ N ∧ Fill C os w ⟨w.heap.size, B1, B2, B3, B4, B5⟩ ob lv k k k k x) (fun _ i _ => N - (intOf i).toNat)
    case atStart => exact ⟨0, _, _, rfl, rfl, by omega, F0⟩
    case round =>
      clear F0
      obtain ⟨k, ob, lv, rfl, rfl, hk, hF⟩ := hrel
      by_cases hkn : k < N
      case pos =>
        refine piece_shut fun hpiece => ?_
        letI hlaid := piece_lay hpiece (by
          clear hpiece
          have hkN : (k : Int) < N := by omega
          have hk0 : (0 : Int) ≤ k := by omega
          have hs := HSP.out (by omega)
          subst hs
          have hI := HI.out.below hF.bel (Nat.le_refl _)
          have hkl : k < os.length := by rw [HN.out]; exact hkn
          obtain ⟨o, ho⟩ : ∃ o, o = os.getD k Ord6.zero := ⟨_, rfl⟩
          have HO := hidP ho.symm
          have cc : ∀ j, j < 6 → wr.cell? ⟨gs, off + k * 6 + j, none⟩ = o.cells[j]? := fun j hj => by rw [hI.cells k hkl j hj, HO.out]
          have c0 := cc 0 (by omega)
          have c1 := cc 1 (by omega)
          have c2 := cc 2 (by omega)
          have c3 := cc 3 (by omega)
          have c4 := cc 4 (by omega)
          have c5 := cc 5 (by omega)
          simp [Ord6.cells] at c0 c1 c2 c3 c4 c5
          clear cc ho hI
          go_wp2_with fail
          refine (newOrder_at o.id o.sd o.price o.rem o.stamp o.saved _).mono ?_
          rintro e x2 ⟨rfl, hO, hb2, z2⟩
          simp only [World.size_alloc] at hO z2 ⊢
          have X2 : BoxAt x2 wr.heap.size o.id o.sd o.price o.rem o.stamp o.saved :=
            BoxAt.below (B := (wr.alloc (Obj.cells #[Value.int IntKind.i64 o.id, Value.int IntKind.u8 o.sd, Value.int IntKind.i64 o.price, Value.int IntKind.i64 o.rem, Value.int IntKind.i64 o.stamp, Value.int IntKind.u64 o.saved] 39)).heap.size) ⟨by simp, by simp, by simp, by simp, by simp, by simp⟩ hb2 (by simp)
          obtain ⟨ob', lv', eo, F3⟩ := fill_order hF HO.out hO hb2 z2
          have LB := hidP (show wr.heap.size < x2.heap.size by omega)
          have LB5 := hidP hF.o6
          clear hF hb2 z2 hO c0 c1 c2 c3 c4 c5
          generalize wr.heap.size = H at *
          obtain ⟨u, f1, f2⟩ := F3.objCell k hkl
          simp only at f1 f2
          have F4 := F3.setObj hkl
          rw [eo] at F4
          go_upto_region 23 with fail
          have X3 : BoxAt (x2.setCell ⟨B3, k, none⟩ (Value.pointer (some ⟨H + 1 + 1, 0, none⟩))) H o.id o.sd o.price o.rem o.stamp o.saved :=
            (Ch.setCell x2 B3 k _).box X2 LB.out (by have := F3.o4; have := F3.o5; have := LB5.out; simp only at *; omega)
          have LB3 := hidP (show H < (x2.setCell ⟨B3, k, none⟩ (Value.pointer (some ⟨H + 1 + 1, 0, none⟩))).heap.size from Nat.lt_of_lt_of_le LB.out (Ch.setCell x2 B3 k _).size)
          clear X2 F3 f1 f2 LB eo
          generalize x2.setCell ⟨B3, k, none⟩ (Value.pointer (some ⟨H + 1 + 1, 0, none⟩)) = x3 at F4 X3 LB3 ⊢
          obtain ⟨m, hm⟩ : ∃ m, m = C.must o := ⟨_, rfl⟩
          have HM := hidP hm.symm
          clear hm
          have hp : I64 o.price ∧ I64 o.stamp := by rw [← HO.out]; exact H64.out k hkn
          have hms := mustSave_any C.seq C.n C.rd C.cc C.ls C.lk C.lt o.id o.sd o.price o.rem o.stamp o.saved x3 hp.1 hp.2 HL.out.1 HL.out.2
          rw [show mustB C.seq C.n C.rd C.cc C.ls C.lk C.lt o.sd o.price o.stamp o.saved = m from HM.out] at hms
          have l0 : x3.cell? ⟨w.heap.size, 0, none⟩ = _ := F4.ls
          have l1 : x3.cell? ⟨w.heap.size, 1, none⟩ = _ := F4.lk
          have l2 : x3.cell? ⟨w.heap.size, 2, none⟩ = _ := F4.lt
          obtain ⟨b0, b1, b2, b3, b4, b5⟩ := X3
          have HMS := hidP hms
          clear hms hp
          go_wp2_with fail
          refine HMS.out.mono ?_
          rintro e x4 ⟨rfl, hb4⟩
          have F5 := F4.below hb4
          have X4 := BoxAt.below (show BoxAt x3 H o.id o.sd o.price o.rem o.stamp o.saved from ⟨b0, b1, b2, b3, b4, b5⟩) hb4 LB3.out
          have LB4 := hidP (show H < x4.heap.size from Nat.lt_of_lt_of_le LB3.out hb4.size)
          clear HMS F4 b0 b1 b2 b3 b4 b5 l0 l1 l2 hb4 LB3
          obtain ⟨u', f1, f2⟩ := F5.saveCell k hkl
          simp only at f1 f2
          have F6 := F5.setSave hkl
          rw [HO.out, HM.out] at F6
          go_upto_region 24 with fail
          have X5 : BoxAt (x4.setCell ⟨B4, k, none⟩ (Value.bool m)) H o.id o.sd o.price o.rem o.stamp o.saved :=
            (Ch.setCell x4 B4 k _).box X4 LB4.out (by have := F5.o4; have := F5.o5; have := LB5.out; simp only at *; omega)
          have s5 : (x4.setCell ⟨B4, k, none⟩ (Value.bool m)).cell? ⟨B4, k, none⟩ = some (.bool m) := World.cell?_setCell_same _ _ _ f1
          have LB6 := hidP (show H < (x4.setCell ⟨B4, k, none⟩ (Value.bool m)).heap.size from Nat.lt_of_lt_of_le LB4.out (Ch.setCell x4 B4 k _).size)
          clear X4 F5 f1 f2 LB4
          generalize x4.setCell ⟨B4, k, none⟩ (Value.bool m) = x5 at F6 X5 s5 LB6 ⊢
          cases m
          · go_wp2_with fail
            have F7 := F6.skip hkl (by rw [HO.out]; exact HM.out)
            refine ⟨⟨k + 1, ob', lv', ?_, by simp, by omega, F7⟩, by simp [intOf]; omega⟩
            rw [want_no C os k hkl (by rw [HO.out]; exact HM.out)]
          · go_upto_region 25 with fail
            have hfit : (C.want (os.take k)).length + 1 ≤ N := by have := want_len C os k; omega
            have hmt : C.must (os.getD k Ord6.zero) = true := by rw [HO.out]; exact HM.out
            have hrec : (os.getD k Ord6.zero).toRec = o.toRec := by rw [HO.out]
            have HF7 := hidP (fun (y0 y : World) (hb : Below x5.heap.size x5 y0) (hg : y0.grownBy y (some B5)) (ho : y.ownsRow w.heap.size 57 6 (.slice (some ⟨B5, 0, none⟩) ((C.want (os.take k)).length + 1) N) ((C.want (os.take k)).length + 1) (flat (C.want (os.take k)) ++ o.toRec.cells)) =>
              (F6.below hb).append hkl hmt hg (by rw [hrec, HN.out]; exact ho))
            have hwant := F6.want
            rw [HN.out] at hwant
            simp only at hwant
            have HWT := hidP hwant
            clear hwant hrec hmt F6
            obtain ⟨b0, b1, b2, b3, b4, b5⟩ := X5
            have HLA := hidP (fun ob : Obj => show H < ((x5.alloc ob).drew).heap.size by have := LB6.out; simp [World.drew]; omega)
            have HNE := hidP (show H ≠ B5 by have := LB5.out; first | omega | (simp only at this; omega))
            go_region_held3 (fun x => x.cell? ⟨H, 0, none⟩ = some (.int .i64 o.id) ∧ x.cell? ⟨H, 1, none⟩ = some (.int .u8 o.sd) ∧ x.cell? ⟨H, 2, none⟩ = some (.int .i64 o.price) ∧ x.cell? ⟨H, 3, none⟩ = some (.int .i64 o.rem) ∧ x.cell? ⟨H, 4, none⟩ = some (.int .i64 o.stamp))
              (go_keep)
              (first
                | (go_at_call 22; refine (keyOf_any _ _ _).mono ?_; rintro e w' ⟨rfl, rfl⟩)
                | (refine step_append_fits (by rfl) _ _ _ (by rfl) w.heap.size 57 i57 6 Try.underlying55 e57 s57 B5 (C.want (os.take k)).length N (flat (C.want (os.take k))) (by rfl) ((HWT.out.alloc _).drew) ⟨x5.heap.size, 0, none⟩ 1 1 o.toRec.cells (by rfl) (by rfl) (World.news_of_block (cs := o.toRec.cells.toArray) (t := 57) (fr := (0, 0)) (heap_alloc_new x5 _)) (by simp [SRec.cells, Value.oneCell']) hfit ?_; intro y hown hgrow; have hw1 := fun oo => (Ch.grown hgrow).cell (a := ⟨H, oo, none⟩) (HLA.out _) HNE.out))
            all_goals
              go_wp2_with fail
              refine ⟨⟨k + 1, ob', lv', ?_, by simp, by omega, HF7.out _ y ((Below.refl _ x5).alloc (Nat.le_refl _) _).drew hgrow hown⟩, by simp [intOf]; omega⟩
              rw [want_yes C os k hkl (by rw [HO.out]; exact HM.out), List.length_append]; rfl)
        have hzero := hpiece.out
        omega
      case neg =>
        refine piece_shut fun hpiece => ?_
        letI hlaid := piece_lay hpiece (by
          clear hpiece
          have hkN : ¬ (k : Int) < N := by omega
          go_wp2_with fail
          obtain rfl : N = k := by omega
          have L0 := Fill.laid HN.out hF
          have S0 := L0.start
          have HL0 := hidP L0
          clear hF hkN hk hkn L0
          generalize hm : (C.want (os.take N)).length = m
          have HM := hidP hm
          have HTK := hidP (show os.take N = os by rw [← HN.out]; exact List.take_length)
          clear hm
          generalize wr = x0 at HL0 S0 ⊢
          go_loopw [22] (fun r x => ∃ (i K : Nat), r = .int .i64 i ∧ i ≤ 2 ∧ ((i = 0 ∧ K = 0) ∨ (1 ≤ i ∧ K = N)) ∧ Sv C os B1 ob x0.heap.size w.heap.size x0 K x) (fun r _ => 2 - (intOf r).toNat)
          case atStart => exact ⟨0, 0, rfl, by omega, .inl ⟨rfl, rfl⟩, S0⟩
          case round =>
            clear S0
            obtain ⟨i, K, rfl, hi, hK, hS⟩ := hrel
            by_cases hi2 : i < 2
            case pos =>
              have hi2' : (i : Int) < 2 := by omega
              go_wp2_with fail
              go_loopw [23] (fun j x => ∃ (k K : Nat), j = .int .i64 k ∧ k ≤ N ∧ ((i = 0 ∧ K = k) ∨ (1 ≤ i ∧ K = N)) ∧ Sv C os B1 ob x0.heap.size w.heap.size x0 K x) (fun j _ => N - (intOf j).toNat)
              case atStart => exact ⟨0, K, rfl, by omega, by omega, hS⟩
              case round =>
                clear hS hK
                obtain ⟨k, K, rfl, hk, hK, hS⟩ := hrel
                by_cases hkn : k < N
                case pos =>
                  refine piece_shut fun hpiece => ?_
                  letI hlaid := piece_lay hpiece (by
                    clear hpiece
                    have hkN : (k : Int) < N := by omega
                    have hk0 : (0 : Int) ≤ k := by omega
                    have hkl : k < os.length := by rw [HN.out]; exact hkn
                    have ho : wr.cell? ⟨B3, k, none⟩ = some (.pointer (some ⟨ob k, 0, none⟩)) := (HL0.out.far hS B3 k (.inl rfl)).trans (HL0.out.objs k hkl)
                    have HST := hidP (save_step (K' := if i = 0 then k + 1 else N) HL0.out.S hS hkl (by rw [HN.out]; split <;> omega) (by rw [HN.out]; exact h) (HOK.out k hkn))
                    clear hS
                    go_wp2_with fail
                    refine HST.out.mono ?_
                    rintro e x' ⟨rfl, hS'⟩
                    go_wp2_with fail
                    refine ⟨⟨k + 1, _, by simp, by omega, ?_, hS'⟩, by simp [intOf]; omega⟩
                    split <;> omega)
                  have hzero := hpiece.out
                  omega
                case neg =>
                  have hkN : ¬ (k : Int) < N := by omega
                  have hKN : K = N := by omega
                  subst hKN
                  obtain ⟨a, cap', hl⟩ := Sv.len (q := ⟨w.heap.size, B1, B2, B3, B4, B5⟩) hS
                  rw [HM.out] at hl
                  go_wp2_with fail
                  refine (savedLen_any B1 a m cap' _ hl).mono ?_
                  rintro e x' ⟨rfl, hx'⟩
                  subst hx'
                  go_wp2_with fail
                  exact ⟨⟨i + 1, K, by simp, by omega, .inr ⟨by omega, rfl⟩, hS⟩, by simp [intOf]; omega⟩
            case neg =>
              refine piece_shut fun hpiece => ?_
              letI hlaid := piece_lay hpiece (by
                clear hpiece
                have hi2' : ¬ (i : Int) < 2 := by omega
                obtain rfl : N = K := by omega
                obtain ⟨v, hBk, hRw⟩ := hS.book
                have HD := hidP (heap_facts C os N h HN.out H64.out)
                rw [HM.out] at HD
                obtain ⟨H, hH⟩ : ∃ H, H = (C.want (os.take N)).foldl hpush [] := ⟨_, rfl⟩
                rw [← hH] at hRw HD
                rw [HD.out.1] at hRw
                have hm16 : m ≤ 16384 := by rw [← HM.out]; exact Nat.le_trans (want_len C os N) h
                have HV := hidP hBk.saved
                have HR := hidP hRw
                have HS := hidP hS
                have mm1 : i57.bytes * m ≤ 281474976710656 := by rw [y57]; omega
                have mm2 : m ≤ maxLen := by unfold maxLen; omega
                clear hH hBk hRw hS hK
                go_wp2_with (at_make; refine wpList_make_full _ rfl _ _ 55 rfl wr.heap.size 57 i57 _ 6 Try.underlying55 e57 z57 s57 .i64 .i64 _ _ m rfl rfl rfl rfl mm1 mm2 (Nat.le_refl _) ?_; intro w7 hown7 hgrow7)
                rw [made_recs] at hown7
                have b7 : Below wr.heap.size wr w7 := belG (Below.refl _ _) hgrow7 (Nat.le_refl _)
                clear hgrow7 e57 z57 s57 y57 mm1 mm2 hi2' hi2 hi
                generalize wr = y0 at *
                go_loopw [26] (fun i x => ∃ (k : Nat) (G : List SRec), i = .int .i64 k ∧ k ≤ m ∧ G.length = m ∧ G.take k = H.take k ∧ Below y0.heap.size y0 x ∧ x.ownsRow y0.heap.size 57 6 (.slice (some ⟨y0.heap.size, 0, none⟩) m m) m (flat G)) (fun i _ => m - (intOf i).toNat)
                case atStart => exact ⟨0, _, rfl, by omega, by simp, by simp, b7, hown7⟩
                case round =>
                  clear b7 hown7
                  obtain ⟨k, G, rfl, hk, hGl, hGt, hb, hG⟩ := hrel
                  have HG := hidP (And.intro hGl hGt)
                  clear hGl hGt
                  by_cases hkn : k < m
                  case pos =>
                    refine piece_shut fun hpiece => ?_
                    letI hlaid := piece_lay hpiece (by
                      clear hpiece
                      have hkN : (k : Int) < m := by omega
                      have hk0 : (0 : Int) ≤ k := by omega
                      obtain ⟨g, cap', rfl, hg1, hg2⟩ := HR.out.form (by omega)
                      have hc32 := (hb.cell (p := ⟨B1, 32, none⟩) (by have := World.block_lt_of_cell? y0 _ HV.out; simpa using this)).trans HV.out
                      have HC := hidP (savedAt_any B1 k x0.heap.size g cap' H wr (by rw [HD.out.1]; exact hc32) (by rw [HD.out.1]; exact owns_below HR.out hb (Nat.le_refl _)) (by rw [HD.out.1]; exact hkn))
                      generalize hr : H.getD k SRec.zero = r at HC
                      have HRR := hidP hr
                      clear hr hc32
                      go_wp2_with fail
                      refine HC.out.mono ?_
                      rintro e x' ⟨rfl, hb'⟩
                      have hG' := owns_below hG hb' (Nat.le_refl _)
                      have hbb : Below y0.heap.size y0 x' := hb.trans (hb'.mono hb.size)
                      have rq : ∀ j, j < 6 → x'.cell? ⟨y0.heap.size, k * 6 + j, none⟩ = (G.getD k SRec.zero).cells[j]? := fun j hj => by rw [hG'.cellAt _ (by omega), flat_at G k j (by rw [HG.out.1]; omega) hj]
                      have fr : ∀ j, x'.frozen? ⟨y0.heap.size, j, none⟩ = false := fun j => hG'.frozenAt j
                      generalize G.getD k SRec.zero = rc at rq
                      have d0 := rq 0 (by omega)
                      have d1 := rq 1 (by omega)
                      have d2 := rq 2 (by omega)
                      have d3 := rq 3 (by omega)
                      have d4 := rq 4 (by omega)
                      have d5 := rq 5 (by omega)
                      simp [SRec.cells] at d0 d1 d2 d3 d4 d5
                      clear rq hG hb hb' HC
                      go_wp2_with fail
                      have R := put_rec hbb hG' k r (by rw [HG.out.1]; exact hkn) (Nat.le_refl _)
                      refine ⟨⟨k + 1, G.set k r, by simp, by omega, by rw [List.length_set]; exact HG.out.1, ?_, R.1, R.2⟩, by simp [intOf]; omega⟩
                      rw [take_set_snoc G k r (by rw [HG.out.1]; exact hkn), HG.out.2, List.take_add_one, ← HRR.out]
                      congr 1
                      simp [HD.out.1, hkn])
                    have hzero := hpiece.out
                    omega
                  case neg =>
                    refine piece_shut fun hpiece => ?_
                    letI hlaid := piece_lay hpiece (by
                      clear hpiece
                      have hkN : ¬ (k : Int) < m := by omega
                      obtain rfl : H = G := by
                        have := HG.out.2
                        rw [List.take_of_length_le (by rw [HG.out.1]; omega), List.take_of_length_le (by rw [HD.out.1]; omega)] at this
                        exact this.symm
                      go_wp2_with fail
                      clear HG hkN hkn hk
                      generalize wr = y1 at *
                      go_loopw [33] (fun i x => ∃ k : Nat, i = .int .i64 k ∧ 1 ≤ k ∧ (k ≤ m ∨ k = 1) ∧ Below y1.heap.size y1 x) (fun i _ => m - (intOf i).toNat)
                      case atStart => exact ⟨1, rfl, by omega, .inr rfl, Below.refl _ _⟩
                      case round =>
                        obtain ⟨k, rfl, hk1, hk, hby⟩ := hrel
                        have hGw := owns_below hG hby (Nat.le_refl _)
                        by_cases hkn : k < m
                        case pos =>
                          refine piece_shut fun hpiece => ?_
                          letI hlaid := piece_lay hpiece (by
                            clear hpiece
                            have hkN : (k : Int) < m := by omega
                            have hk0 : (0 : Int) ≤ k := by omega
                            obtain ⟨p, hp⟩ : ∃ p : Nat, p = (k - 1) / 2 := ⟨_, rfl⟩
                            have ep : ((k : Int) - 1) / 2 = (p : Int) := by omega
                            have hp1 : p < k := by omega
                            have hpm : (p : Int) < m := by omega
                            have hp0 : (0 : Int) ≤ p := by omega
                            obtain ⟨a, ha⟩ : ∃ a, a = H.getD k SRec.zero := ⟨_, rfl⟩
                            obtain ⟨b, hb'⟩ : ∃ b, b = H.getD p SRec.zero := ⟨_, rfl⟩
                            have rk : ∀ j, j < 6 → wr.cell? ⟨y0.heap.size, k * 6 + j, none⟩ = a.cells[j]? := fun j hj => by rw [hGw.cellAt _ (by omega), flat_at H k j (by rw [HD.out.1]; omega) hj, ha]
                            have rp : ∀ j, j < 6 → wr.cell? ⟨y0.heap.size, p * 6 + j, none⟩ = b.cells[j]? := fun j hj => by rw [hGw.cellAt _ (by omega), flat_at H p j (by rw [HD.out.1]; omega) hj, hb']
                            have hle : b.cmp a ≤ 0 := by
                              have := HD.out.2.2.1 k (by omega) (by rw [HD.out.1]; exact hkn)
                              rw [← hp] at this
                              rw [ha, hb']; exact this
                            have oka : a.ok := by rw [ha]; exact getD_ok HD.out.2.2.2.1 k (by rw [HD.out.1]; exact hkn)
                            have okb : b.ok := by rw [hb']; exact getD_ok HD.out.2.2.2.1 p (by rw [HD.out.1]; omega)
                            have HCM := hidP (fun ww : World => cmpPosModel_any b.side b.key b.stamp a.side a.key a.stamp okb.1 okb.2 oka.1 oka.2 ww)
                            obtain ⟨cv, hcv⟩ : ∃ cv, cv = cmpPos b.side b.key b.stamp a.side a.key a.stamp := ⟨_, rfl⟩
                            rw [← hcv] at HCM
                            have hcv0 : ¬ (0 : Int) < cv := by rw [hcv]; unfold SRec.cmp at hle; omega
                            have k0 := rk 0 (by omega)
                            have k1 := rk 1 (by omega)
                            have k2 := rk 2 (by omega)
                            have p0 := rp 0 (by omega)
                            have p1 := rp 1 (by omega)
                            have p2 := rp 2 (by omega)
                            have p3 := rp 3 (by omega)
                            have p4 := rp 4 (by omega)
                            have p5 := rp 5 (by omega)
                            simp [SRec.cells] at k0 k1 k2 p0 p1 p2 p3 p4 p5
                            have HLT := hidP (hGw.lt y0.heap.size rfl).2
                            clear rk rp hle oka okb hcv ha hb' hp hGw
                            go_upto_region 46 with fail
                            have HLA := hidP (fun ob : Obj => show wr.heap.size < ((wr.alloc ob).drew).heap.size by simp [World.drew])
                            have HLB := hidP (fun ob : Obj => show y0.heap.size < ((wr.alloc ob).drew).heap.size by have := HLT.out; simp [World.drew]; omega)
                            go_cut [237] from 204 to 237 (fun c x => c = .bool false ∧ Below wr.heap.size wr x)
                            case first =>
                              go_region_held3 (fun x => x.cell? ⟨y0.heap.size, k * 6, none⟩ = some (.int .u8 a.side) ∧ x.cell? ⟨y0.heap.size, k * 6 + 1, none⟩ = some (.int .i64 a.key) ∧ x.cell? ⟨y0.heap.size, k * 6 + 2, none⟩ = some (.int .i64 a.stamp) ∧ x.cell? ⟨wr.heap.size, 0, none⟩ = some (.int .u8 b.side) ∧ x.cell? ⟨wr.heap.size, 1, none⟩ = some (.int .i64 b.key) ∧ x.cell? ⟨wr.heap.size, 2, none⟩ = some (.int .i64 b.stamp))
                                (go_keep)
                                ((go_at_call 11; refine (HCM.out _).mono ?_; rintro e w' ⟨rfl, hbel⟩; have hw1 := fun o => hbel.cell (p := ⟨y0.heap.size, o, none⟩) (HLB.out _); have hw2 := fun o => hbel.cell (p := ⟨wr.heap.size, o, none⟩) (HLA.out _)))
                              all_goals
                                go_wp2_with fail
                                go_meet
                                exact ⟨by congr 1; simp; omega, ((Below.refl _ wr).alloc (Nat.le_refl _) _).drew.trans (hbel.mono (Nat.le_of_lt (HLA.out _)))⟩
                            case rest =>
                              obtain ⟨rfl, hbel⟩ := hcut
                              go_wp2_with fail
                              exact ⟨⟨k + 1, by simp, by omega, by omega, hby.trans (hbel.mono hby.size)⟩, by simp [intOf]; omega⟩)
                          have hzero := hpiece.out
                          omega
                        case neg =>
                          refine piece_shut fun hpiece => ?_
                          letI hlaid := piece_lay hpiece (by
                            clear hpiece
                            have hkN : ¬ (k : Int) < m := by omega
                            have B0 : Below y0.heap.size y0 wr := hb.trans (hby.mono hb.size)
                            have HWL := hidP (show (C.want os).length = m by rw [← HM.out, HTK.out])
                            have C1 := sortRecs_any (.slice (some ⟨y0.heap.size, 0, none⟩) m m) H wr (by rw [HD.out.1]; exact SrcAt.of_owns hGw) (by rw [HD.out.1]; exact hm16) HD.out.2.2.2.1
                            rw [HD.out.1] at C1
                            have HC1 := hidP C1
                            have HB0 := hidP B0
                            clear C1 B0 hGw hby hkn hk hk1 hG hb
                            go_wp2_with fail
                            refine HC1.out.mono ?_
                            rintro e x1 ⟨g1, rfl, hr1, hb1⟩
                            have B1' : Below y0.heap.size y0 x1 := HB0.out.trans (hb1.mono HB0.out.size)
                            have SV1 := HS.out.below HL0.out.S B1'
                            have C2 := sortRecs_any (.slice (some ⟨B5, 0, none⟩) m N) (C.want os) x1 (by
                              rw [HWL.out]
                              refine SrcAt.of_cells (by rw [flat_length, HWL.out]) (fun j hj => ?_)
                              exact (HL0.out.far SV1 B5 j (.inr (.inr rfl))).trans (HL0.out.want j (by rw [HWL.out]; exact hj))) (by rw [HWL.out]; exact hm16) HD.out.2.2.2.2
                            rw [HWL.out, ← msort_eq _ _ HD.out.2.1] at C2
                            have HC2 := hidP C2
                            have HR1 := hidP hr1
                            have HB1 := hidP B1'
                            clear C2 hr1 hb1 B1' SV1
                            go_wp2_with fail
                            refine HC2.out.mono ?_
                            rintro e x2 ⟨g2, rfl, hr2, hb2⟩
                            have hr1 := owns_below HR1.out hb2 (Nat.le_refl _)
                            have HRL := hidP (show (msort H).length = m by rw [(msort_perm H).length_eq]; exact HD.out.1)
                            have HB2 := hidP (HB1.out.trans (hb2.mono HB1.out.size))
                            generalize msort H = R at hr1 hr2 HRL
                            have HR1' := hidP hr1
                            have HR2' := hidP hr2
                            clear hr1 hr2 hb2 HC1 HC2 HB0 HB1
                            go_wp2_with fail
                            go_loopw [37] (fun i x => ∃ k : Nat, i = .int .i64 k ∧ k ≤ m ∧ Below x2.heap.size x2 x) (fun i _ => m - (intOf i).toNat)
                            case atStart => exact ⟨0, rfl, by omega, Below.refl _ _⟩
                            case round =>
                              obtain ⟨k, rfl, hk, hbx⟩ := hrel
                              by_cases hkn : k < m
                              case pos =>
                                refine piece_shut fun hpiece => ?_
                                letI hlaid := piece_lay hpiece (by
                                  clear hpiece
                                  have hkN : (k : Int) < m := by omega
                                  have hk0 : (0 : Int) ≤ k := by omega
                                  have o1 := owns_below HR1'.out hbx (Nat.le_refl _)
                                  have o2 := owns_below HR2'.out hbx (Nat.le_refl _)
                                  have rk : ∀ j, j < 6 → wr.cell? ⟨g1, k * 6 + j, none⟩ = (R.getD k SRec.zero).cells[j]? := fun j hj => by rw [o1.cellAt _ (by omega), flat_at R k j (by rw [HRL.out]; omega) hj]
                                  have rp : ∀ j, j < 6 → wr.cell? ⟨g2, k * 6 + j, none⟩ = (R.getD k SRec.zero).cells[j]? := fun j hj => by rw [o2.cellAt _ (by omega), flat_at R k j (by rw [HRL.out]; omega) hj]
                                  generalize R.getD k SRec.zero = r at rk rp
                                  have k0 := rk 0 (by omega)
                                  have k1 := rk 1 (by omega)
                                  have k2 := rk 2 (by omega)
                                  have k3 := rk 3 (by omega)
                                  have k4 := rk 4 (by omega)
                                  have k5 := rk 5 (by omega)
                                  have p0 := rp 0 (by omega)
                                  have p1 := rp 1 (by omega)
                                  have p2 := rp 2 (by omega)
                                  have p3 := rp 3 (by omega)
                                  have p4 := rp 4 (by omega)
                                  have p5 := rp 5 (by omega)
                                  simp [SRec.cells] at k0 k1 k2 k3 k4 k5 p0 p1 p2 p3 p4 p5
                                  have q57 := fun w => eq57 r w
                                  clear rk rp o1 o2
                                  go_upto_region 53 with fail
                                  go_quiet (fail)
                                  go_wp2_with fail
                                  exact ⟨⟨k + 1, by simp, by omega, bel_drewN hbx _⟩, by simp [intOf]; omega⟩)
                                have hzero := hpiece.out
                                omega
                              case neg =>
                                refine piece_shut fun hpiece => ?_
                                letI hlaid := piece_lay hpiece (by
                                  clear hpiece
                                  have hkN : ¬ (k : Int) < m := by omega
                                  have HB3 := hidP (HB2.out.trans (hbx.mono HB2.out.size))
                                  clear hbx HR1' HR2' HB2
                                  go_wp2_with fail
                                  clear hkN hkn hk
                                  go_loopw [38] (fun i x => ∃ k : Nat, i = .int .i64 k ∧ k ≤ N ∧ Below y0.heap.size y0 x) (fun i _ => N - (intOf i).toNat)
                                  case atStart => exact ⟨0, rfl, by omega, HB3.out⟩
                                  case round =>
                                    clear HB3
                                    obtain ⟨k, rfl, hk, hbx⟩ := hrel
                                    have SV := HS.out.below HL0.out.S hbx
                                    have HBW := hidP (HL0.out.bel.trans SV.keep.bel)
                                    have HBX := hidP hbx
                                    clear hbx
                                    by_cases hkn : k < N
                                    case pos =>
                                      refine piece_shut fun hpiece => ?_
                                      letI hlaid := piece_lay hpiece (by
                                        clear hpiece
                                        have hkN : (k : Int) < N := by omega
                                        have hk0 : (0 : Int) ≤ k := by omega
                                        have hs := HSP.out (by omega)
                                        subst hs
                                        have hkl : k < os.length := by rw [HN.out]; exact hkn
                                        have c5 : wr.cell? ⟨gs, off + k * 6 + 5, none⟩ = some (.int .u64 (os.getD k Ord6.zero).saved) := (HI.out.below HBW.out (Nat.le_refl _)).cells k hkl 5 (by omega)
                                        have cs : wr.cell? ⟨B4, k, none⟩ = some (.bool (C.must (os.getD k Ord6.zero))) := (HL0.out.far SV B4 k (.inr (.inl rfl))).trans (HL0.out.saves k hkl)
                                        have co : wr.cell? ⟨B3, k, none⟩ = some (.pointer (some ⟨ob k, 0, none⟩)) := (HL0.out.far SV B3 k (.inl rfl)).trans (HL0.out.objs k hkl)
                                        have HO := hidP (orderSaved_any _ _ _ _ _ _ _ _ wr (SV.ord HL0.out.S hkl))
                                        cases hmu : C.must (os.getD k Ord6.zero) with
                                        | false =>
                                          rw [hmu] at cs
                                          rw [show C.mark os N k = (os.getD k Ord6.zero).saved by unfold Cfg.mark; rw [if_neg (fun q => by rw [hmu] at q; cases q.2)]] at HO
                                          generalize (os.getD k Ord6.zero).saved = sv at c5 HO
                                          clear hmu SV
                                          go_wp2_with fail
                                          refine HO.out.mono ?_
                                          rintro e x' ⟨rfl, hx'⟩
                                          subst hx'
                                          go_wp2_with fail
                                          exact ⟨⟨k + 1, by simp, by omega, HBX.out⟩, by simp [intOf]; omega⟩
                                        | true =>
                                          rw [hmu] at cs
                                          rw [show C.mark os N k = C.n by unfold Cfg.mark; rw [if_pos ⟨hkn, hmu⟩]] at HO
                                          generalize (os.getD k Ord6.zero).saved = sv at c5
                                          clear hmu SV
                                          go_wp2_with fail
                                          refine HO.out.mono ?_
                                          rintro e x' ⟨rfl, hx'⟩
                                          subst hx'
                                          go_wp2_with fail
                                          exact ⟨⟨k + 1, by simp, by omega, HBX.out⟩, by simp [intOf]; omega⟩)
                                      have hzero := hpiece.out
                                      omega
                                    case neg =>
                                      have hkN : ¬ (k : Int) < N := by omega
                                      clear SV
                                      go_wp2_with fail
                                      go_ret
                                      exact ⟨rfl, HBW.out⟩)
                                have hzero := hpiece.out
                                omega)
                          have hzero := hpiece.out
                          omega)
                    have hzero := hpiece.out
                    omega)
              have hzero := hpiece.out
              omega)
        have hzero := hpiece.out
        omega
end Go.Proofs.Qxb6616641a
