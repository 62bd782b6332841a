import Derived.Test.Qxb6616641aFill
set_option linter.unusedVariables false
set_option linter.unusedSimpArgs false
namespace Go.Proofs.Qxb6616641a
open Go.RowKit

/-- What stands when the script has been laid. -/
structure Laid (C : Cfg) (os : List Ord6) (w : World) (q : Bl) (ob lv : Nat → Nat) (x0 : World) : Prop where
  S : Stat C os q.b q.cp ob lv x0.heap.size w.heap.size x0
  objs : ∀ j, j < os.length → x0.cell? ⟨q.gO, j, none⟩ = some (.pointer (some ⟨ob j, 0, none⟩))
  saves : ∀ j, j < os.length → x0.cell? ⟨q.gS, j, none⟩ = some (.bool (C.must (os.getD j Ord6.zero)))
  want : ∀ j, j < (C.want os).length * 6 → x0.cell? ⟨q.gW, j, none⟩ = (flat (C.want os))[j]?
  bel : Below w.heap.size w x0
  rows : ∀ g, g = q.gO ∨ g = q.gS ∨ g = q.gW → q.b < g ∧ g < x0.heap.size ∧ ∀ j, j < os.length → g ≠ ob j

theorem Fill.laid {C : Cfg} {os : List Ord6} {w : World} {q : Bl} {ob lv : Nat → Nat} {N : Nat} {x : World} (hN : os.length = N) (h : Fill C os w q ob lv N N N N x) : Laid C os w q ob lv x := by
  subst hN
  have p0 := h.o0; have p1 := h.o1; have p2 := h.o2; have p3 := h.o3; have p4 := h.o4; have p5 := h.o5; have p6 := h.o6
  obtain ⟨xs, hx, hx'⟩ := h.objs
  obtain ⟨ys, hy, hy'⟩ := h.saves
  have hw := h.want
  rw [List.take_length] at hw
  refine ⟨⟨h.cap, h.book, h.ords, rfl, by omega, h.o2, by omega, fun j hj => ?_⟩, fun j hj => ?_, fun j hj => ?_, fun j hj => hw.cellAt j hj, h.bel, fun g hg => ⟨by omega, by omega, fun j hj => by have := h.fam j hj; omega⟩⟩
  · have := h.fam j hj
    exact ⟨by omega, this.2.1, this.2.2.1, this.2.2.2⟩
  · rw [hx.cellAt j (by omega), hx' j hj]
  · rw [hy.cellAt j (by omega), hy' j hj]

section
variable {C : Cfg} {os : List Ord6} {w : World} {q : Bl} {ob lv : Nat → Nat} {x0 x : World} {K : Nat}

theorem Laid.start (L : Laid C os w q ob lv x0) : Sv C os q.b ob x0.heap.size w.heap.size x0 0 x0 := by
  refine ⟨KeepS.refl _ _ _ _, ⟨_, L.S.book, ?_⟩, fun j hj => ?_⟩
  · exact World.ownsRow_nil _ _ _ _
  · rw [(L.S.ords j hj).saved]
    unfold Cfg.mark
    rw [if_neg (by omega)]

theorem Laid.far (L : Laid C os w q ob lv x0) (h : Sv C os q.b ob x0.heap.size w.heap.size x0 K x) (g o : Nat) (hg : g = q.gO ∨ g = q.gS ∨ g = q.gW) : x.cell? ⟨g, o, none⟩ = x0.cell? ⟨g, o, none⟩ := by
  obtain ⟨h1, h2, h3⟩ := L.rows g hg
  refine h.keep.cell _ h2 ?_
  rintro (e | ⟨j, hj, e⟩)
  · have := congrArg Addr.block e; simp at this; omega
  · have := congrArg Addr.block e; simp at this; exact h3 j hj this

theorem Sv.len (h : Sv C os q.b ob x0.heap.size w.heap.size x0 K x) : ∃ a cap, x.cell? ⟨q.b, 32, none⟩ = some (.slice a (C.want (os.take K)).length cap) := by
  obtain ⟨v, h1, h2⟩ := h.book
  have e : ((C.want (os.take K)).foldl hpush []).length = (C.want (os.take K)).length := by
    have := (foldl_hpush (C.want (os.take K)) []).length_eq
    simpa using this
  rcases h2.2 with ⟨h0, h00⟩ | ⟨g, cap, cur, hv, _⟩
  · rw [e] at h00
    exact ⟨none, 0, by rw [h1.saved, h0, h00]⟩
  · rw [e] at hv
    exact ⟨_, cap, by rw [h1.saved, hv]⟩
end
end Go.Proofs.Qxb6616641a
