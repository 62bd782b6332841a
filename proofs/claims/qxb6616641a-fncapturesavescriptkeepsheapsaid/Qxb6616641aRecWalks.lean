import Derived.Test.Qxb6616641aSort
import Derived.Test.Qxb6616641aSaveMore
import Derived.Laws.CopyOwn
set_option linter.unusedVariables false
set_option linter.unusedSimpArgs false
namespace Go.Proofs.Qxb6616641a
open Go.RowKit

theorem cmpI64_any (a b : Int) (w : World) : Calls Try.prog 41 #[.int .i64 a, .int .i64 b] w fun e w' => e = .returned (.int .i64 (cmpI a b)) ∧ w' = w := by
  rcases cmpI_cases a b with ⟨h, hc⟩ | ⟨h, h', hc⟩ | ⟨h, h', hc⟩
  all_goals
    rw [hc]; clear hc
    go_enter Try.func41, Try.ntmps41
    go_wp2
    go_ret
    exact ⟨rfl, rfl⟩

def SRec.agg (r : SRec) : Value := .agg #[.int .u8 r.side, .int .i64 r.key, .int .i64 r.stamp, .int .i64 r.price, .int .i64 r.id, .int .i64 r.rem]

theorem recCmp_eq (a b : SRec) : recCmp a b = if a.cmp b ≠ 0 then a.cmp b else if cmpI a.price b.price ≠ 0 then cmpI a.price b.price else if cmpI a.id b.id ≠ 0 then cmpI a.id b.id else cmpI a.rem b.rem := by
  unfold recCmp SRec.toL SRec.cmp cmpPos
  simp only [lexL]
  rcases cmpI_cases a.side b.side with ⟨h, hc⟩ | ⟨h, h', hc⟩ | ⟨h, h', hc⟩
  · rw [if_pos h, if_pos h, if_pos (by omega)]
  · rw [if_neg h, if_neg h, if_pos h', if_pos h', if_pos (by omega)]
  rw [if_neg h, if_neg h, if_neg h', if_neg h']
  rcases cmpI_cases a.key b.key with ⟨k, kc⟩ | ⟨k, k', kc⟩ | ⟨k, k', kc⟩
  · rw [if_pos k, if_pos k, if_pos (by omega)]
  · rw [if_neg k, if_neg k, if_pos k', if_pos k', if_pos (by omega)]
  rw [if_neg k, if_neg k, if_neg k', if_neg k']
  rcases cmpI_cases a.stamp b.stamp with ⟨h, hc⟩ | ⟨h, h', hc⟩ | ⟨h, h', hc⟩
  · rw [if_pos h, hc, if_pos (by omega)]
  · rw [if_neg h, if_pos h', hc, if_pos (by omega)]
  rw [if_neg h, if_neg h', hc, if_neg (show ¬ (0 : Int) ≠ 0 by omega)]
  rcases cmpI_cases a.price b.price with ⟨h, hc⟩ | ⟨h, h', hc⟩ | ⟨h, h', hc⟩
  · rw [if_pos h, hc, if_pos (by omega)]
  · rw [if_neg h, if_pos h', hc, if_pos (by omega)]
  rw [if_neg h, if_neg h', hc, if_neg (show ¬ (0 : Int) ≠ 0 by omega)]
  rcases cmpI_cases a.id b.id with ⟨h, hc⟩ | ⟨h, h', hc⟩ | ⟨h, h', hc⟩
  · rw [if_pos h, hc, if_pos (by omega)]
  · rw [if_neg h, if_pos h', hc, if_pos (by omega)]
  rw [if_neg h, if_neg h', hc, if_neg (show ¬ (0 : Int) ≠ 0 by omega)]
  rcases cmpI_cases a.rem b.rem with ⟨h, hc⟩ | ⟨h, h', hc⟩ | ⟨h, h', hc⟩
  · rw [if_pos h, hc]
  · rw [if_neg h, if_pos h', hc]
  rw [if_neg h, if_neg h', hc]

def SRec.ok (r : SRec) : Prop := I64 r.key ∧ I64 r.stamp

set_option maxHeartbeats 1000000 in
theorem cmpRec_any (a b : SRec) (ha : a.ok) (hb : b.ok) (w : World) : Calls Try.prog 36 #[a.agg, b.agg] w fun e w' => e = .returned (.int .i64 (recCmp a b)) ∧ Below w.heap.size w w' := by
  rw [recCmp_eq]
  have H1 : Hid (a.ok) := ha
  have H2 : Hid (b.ok) := hb
  clear ha hb
  obtain ⟨c, hc⟩ : ∃ c, c = a.cmp b := ⟨_, rfl⟩
  have HC : Hid (cmpPos a.side a.key a.stamp b.side b.key b.stamp = c) := hc.symm
  obtain ⟨p, hp⟩ : ∃ p, p = cmpI a.price b.price := ⟨_, rfl⟩
  have HP : Hid (cmpI a.price b.price = p) := hp.symm
  obtain ⟨q, hq⟩ : ∃ q, q = cmpI a.id b.id := ⟨_, rfl⟩
  have HQ : Hid (cmpI a.id b.id = q) := hq.symm
  rw [← hc, ← hp, ← hq]
  clear hc hp hq
  unfold SRec.agg
  go_enter Try.func36, Try.ntmps36
  go_wp2_with fail
  refine (cmpPosModel_any _ _ _ _ _ _ H1.out.1 H1.out.2 H2.out.1 H2.out.2 _).mono ?_
  rintro e w1 ⟨rfl, h1⟩
  rw [HC.out]
  have hb1 : Below w.heap.size w w1 := (bel_two w _ _).trans (h1.mono (by simp; omega))
  have ca : ∀ o, w1.cell? ⟨w.heap.size, o, none⟩ = #[Value.int .u8 a.side, .int .i64 a.key, .int .i64 a.stamp, .int .i64 a.price, .int .i64 a.id, .int .i64 a.rem][o]? := fun o => by
    rw [h1.cell (p := ⟨w.heap.size, o, none⟩) (by simp; omega)]; simp
  have cb : ∀ o, w1.cell? ⟨w.heap.size + 1, o, none⟩ = #[Value.int .u8 b.side, .int .i64 b.key, .int .i64 b.stamp, .int .i64 b.price, .int .i64 b.id, .int .i64 b.rem][o]? := fun o => by
    rw [h1.cell (p := ⟨w.heap.size + 1, o, none⟩) (by simp)]; simp
  have a3 := ca 3
  have a4 := ca 4
  have a5 := ca 5
  have b3 := cb 3
  have b4 := cb 4
  have b5 := cb 5
  simp at a3 a4 a5 b3 b4 b5
  clear ca cb h1
  by_cases hc0 : c = 0
  · subst hc0
    go_wp2_with fail
    refine (cmpI64_any _ _ _).mono ?_
    rintro e w2 ⟨rfl, rfl⟩
    rw [HP.out]
    by_cases hp0 : p = 0
    · subst hp0
      go_wp2_with fail
      refine (cmpI64_any _ _ _).mono ?_
      rintro e w3 ⟨rfl, rfl⟩
      rw [HQ.out]
      by_cases hq0 : q = 0
      · subst hq0
        go_wp2_with fail
        refine (cmpI64_any _ _ _).mono ?_
        rintro e w4 ⟨rfl, rfl⟩
        go_wp2_with fail
        go_ret
        exact ⟨by simp [*], hb1⟩
      · go_wp2_with fail
        go_ret
        exact ⟨by simp [*], hb1⟩
    · go_wp2_with fail
      go_ret
      exact ⟨by simp [*], hb1⟩
  · go_wp2_with fail
    go_ret
    exact ⟨by simp [*], hb1⟩

theorem run_copy_sized {P : Program} (w : World) (dT sT ty elem : TypeId) (g dLen dCap size : Nat) (sp : Option Addr) (sLen sCap : Nat) (cur : Array Value) (t : TypeId) (cs : List Value)
    (hu : P.underlying dT = some (.slice elem)) (hs : (P.info? elem).map (·.size) = some size)
    (hg : w.heap[g]? = some (.cells cur t (0, 0))) (hn : cs.length = Nat.min sLen dLen * size)
    (hsrc : ∀ a, sp = some a → ∀ j v, cs[j]? = some v → w.cell? (a.add j) = some v) (hnil : sp = none → cs = []) (hfit : cs.length ≤ cur.size) (h1 : ∀ v ∈ cs, v.oneCell' = true) :
    (Builtin.copy_ #[dT, sT] ty #[.slice (some ⟨g, 0, none⟩) dLen dCap, .slice sp sLen sCap]).run P w =
      .ok (goInt (Nat.min sLen dLen)) (w.setRow g (cs ++ cur.toList.drop cs.length).toArray) := by
  have hst := run_storeCells_at P g 0 t cs 0 cur w hg (by simpa using hfit) h1
  cases hq : P.info? elem with
  | none => simp [hq] at hs
  | some i =>
    have hi : i.size = size := by simpa [hq] using hs
    cases sp with
    | none =>
      have := hnil rfl
      subst this
      simp [Builtin.copy_, run_underlying hu, Builtin.lenOf, Builtin.firstCells, sizeOf, typeInfo, hq, hi, storeCells]
      rw [setRow_self w g cur t (0, 0) hg]
    | some a =>
      have hl := run_loadCells_list (P := P) w a cs (hsrc a rfl)
      rw [hn] at hl
      simp [Builtin.copy_, run_underlying hu, Builtin.lenOf, Builtin.firstCells, sizeOf, typeInfo, hq, hi, hl, hst]

/-- A slice's elements, as cells. -/
def SrcAt (w : World) (v : Value) (n size : Nat) (xs : List Value) : Prop :=
  xs.length = n * size ∧ ∃ sp sc, v = .slice sp n sc ∧ (∀ a, sp = some a → ∀ j u, xs[j]? = some u → w.cell? (a.add j) = some u) ∧ (sp = none → xs = [])

theorem add_zero' (g j : Nat) : (⟨g, 0, none⟩ : Addr).add j = ⟨g, j, none⟩ := by
  have : (⟨g, 0, none⟩ : Addr).add j = ⟨g, 0 + j, none⟩ := by unfold Addr.add; split <;> simp_all
  rw [this, Nat.zero_add]
theorem SrcAt.of_cells {w : World} {g n cap size : Nat} {xs : List Value} (hl : xs.length = n * size) (h : ∀ j, j < n * size → w.cell? ⟨g, j, none⟩ = xs[j]?) : SrcAt w (.slice (some ⟨g, 0, none⟩) n cap) n size xs := by
  refine ⟨hl, _, _, rfl, ?_, fun h => by (cases h)⟩
  intro a ha j u hj
  cases ha
  have hjl : j < xs.length := by
    rcases Nat.lt_or_ge j xs.length with h | h
    · exact h
    · rw [List.getElem?_eq_none h] at hj; cases hj
  rw [add_zero', h j (by omega), hj]
theorem SrcAt.of_owns {w : World} {base n size : Nat} {e : TypeId} {v : Value} {xs : List Value} (h : w.ownsRow base e size v n xs) : SrcAt w v n size xs := by
  rcases h.2 with ⟨h0, h00⟩ | ⟨g2, cap2, cur2, hv2, r⟩
  · subst h00
    exact ⟨h.1, none, 0, h0, fun a ha => by (cases ha), fun _ => List.eq_nil_of_length_eq_zero (by rw [h.1]; omega)⟩
  · subst hv2
    exact SrcAt.of_cells h.1 (fun j hj => h.cellAt j hj)
theorem add_block (a : Addr) (j : Nat) : (a.add j).block = a.block := by unfold Addr.add; split <;> rfl
theorem SrcAt.below {w x : World} {n size : Nat} {v : Value} {xs : List Value} (h : SrcAt w v n size xs) {B : Nat} (hb : Below B w x) (hB : w.heap.size ≤ B) : SrcAt x v n size xs := by
  obtain ⟨hl, sp, sc, hv, hc, hn⟩ := h
  refine ⟨hl, sp, sc, hv, fun a ha j u hj => ?_, hn⟩
  have := hc a ha j u hj
  have hlt := World.block_lt_of_cell? w _ this
  rw [hb.cell (p := a.add j) (by omega)]; exact this

theorem wpList_copy_recs {P : Program} {w : World} {ops : Array Oper} {rest : List Oper} {o : Oper} {a : Act} {Q : Exit → Act → World → Prop} (hgd : o.guard = none) (d s : Operand) (dT sT : TypeId)
    (ho : o.op = .call { callee := .builtin .copy, args := #[d, s], argTypes := #[dT, sT] }) (elem : TypeId) (hu : P.underlying dT = some (.slice elem)) (size : Nat) (hsz : (P.info? elem).map (·.size) = some size)
    (g n base : Nat) (sv : Value) (l xs : List Value) (hd : a.eval d = .slice (some ⟨g, 0, none⟩) n n) (hs : a.eval s = sv)
    (hown : w.ownsRow base elem size (.slice (some ⟨g, 0, none⟩) n n) n l) (hsrc : SrcAt w sv n size xs) (h1 : ∀ v ∈ xs, v.oneCell' = true)
    (h : ∀ w', w'.ownsRow base elem size (.slice (some ⟨g, 0, none⟩) n n) n xs → Below g w w' → wpList P ops Q rest (a.put o.dst (goInt n)) w') : wpList P ops Q (o :: rest) a w := by
  refine wpList_plain hgd fun K hK => ?_
  obtain ⟨hl1, hd1⟩ := hown
  rcases hd1 with ⟨h0, _⟩ | ⟨g', cap, cur, hv, hb, hg, hnc, hcm, hcs, ht⟩
  · cases h0
  · cases hv
    obtain ⟨hlx, sp, sc, rfl, hcells, hnil⟩ := hsrc
    have hrun := run_copy_sized (P := P) w dT sT o.type elem g n n size sp n sc cur elem xs hu hsz hg (by rw [hlx]; simp) hcells hnil (by rw [hlx, hcs]; exact Nat.le_refl _) h1
    have hdrop : cur.toList.drop xs.length = [] := List.drop_eq_nil_of_le (by rw [hlx]; simp [hcs])
    rw [hdrop, List.append_nil, show Nat.min n n = n from Nat.min_self n] at hrun
    unfold Oper.wp
    simp [execOp, ho, resolve, invoke, builtin, hd, hs, hrun, Result.andThen]
    refine hK _ _ (h _ ⟨hlx, .inr ⟨g, n, xs.toArray, rfl, hb, setRow_heap w g cur _ elem _ hg, Nat.le_refl _, hcm, by simp [hlx], ?_⟩⟩ (below_setRow (Below.refl _ _) (Nat.le_refl _) _))
    rw [List.take_of_length_le (by simp [hlx])]
end Go.Proofs.Qxb6616641a
