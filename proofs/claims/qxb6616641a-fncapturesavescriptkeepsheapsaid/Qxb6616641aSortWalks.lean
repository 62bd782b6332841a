import Derived.Test.Qxb6616641aRecWalks
set_option linter.unusedVariables false
set_option linter.unusedSimpArgs false
namespace Go.Proofs.Qxb6616641a
open Go.RowKit

theorem info57 : (Try.prog.info? 57).map (fun i => (i.zero, i.size, i.bytes)) = some (some SRec.zero.agg, 6, 48) := by kernel_rfl
theorem cells_zero : SRec.zero.agg.cells = SRec.zero.cells.toArray := by kernel_rfl
theorem made_recs (n : Nat) : (madeCells SRec.zero.agg.cells (n * 6)).toList = flat (List.replicate n SRec.zero) := by
  rw [cells_zero]
  apply List.ext_getElem?
  intro j
  by_cases hj : j < n * 6
  · have e := flat_at (List.replicate n SRec.zero) (j / 6) (j % 6) (by simp; omega) (by omega)
    rw [show j / 6 * 6 + j % 6 = j by omega] at e
    rw [e]
    have hr : (List.replicate n SRec.zero).getD (j / 6) SRec.zero = SRec.zero := by simp [List.getElem?_replicate, show j / 6 < n by omega]
    rw [hr]
    have h6 : SRec.zero.cells.toArray.size = 6 := rfl
    unfold madeCells
    rw [h6]
    simp only [Array.toList_map, List.getElem?_map, Array.getElem?_toList]
    have hr2 : (Array.range (n * 6))[j]? = some j := by simp [hj]
    rw [hr2]
    have hlt : j % 6 < 6 := by omega
    simp only [Option.map_some]
    generalize j % 6 = q at hlt
    have : q < SRec.zero.cells.length := by simpa [SRec.cells] using hlt
    rw [List.getElem?_eq_getElem this]
    simp [this]
  · rw [List.getElem?_eq_none (by simp [madeCells]; omega), List.getElem?_eq_none (by rw [flat_length]; simp; omega)]
theorem flat_one (rs : List SRec) : ∀ v ∈ flat rs, v.oneCell' = true := by
  intro v hv
  simp only [flat, List.mem_flatten, List.mem_map] at hv
  obtain ⟨l, ⟨r, _, rfl⟩, hl⟩ := hv
  simp only [SRec.cells, List.mem_cons, List.not_mem_nil, or_false] at hl
  rcases hl with h | h | h | h | h | h <;> subst h <;> rfl

theorem belG {B : Nat} {w x y : World} (h : Below B w x) (hg : x.grownBy y none) (hB : B ≤ x.heap.size) : Below B w y := h.grown hg hB (fun k hk => by cases hk)
theorem owns_grown {x y : World} {base : Nat} {e : TypeId} {size : Nat} {v : Value} {n : Nat} {xs : List Value} (h : x.ownsRow base e size v n xs) (hg : x.grownBy y none) : y.ownsRow base e size v n xs :=
  owns_below h (belG (Below.refl x.heap.size x) hg (Nat.le_refl _)) (Nat.le_refl _)

theorem owns_other {x : World} {base g g' : Nat} {e : TypeId} {size n cap : Nat} {xs : List Value} (h : x.ownsRow base e size (.slice (some ⟨g, 0, none⟩) n cap) n xs) (hne : g ≠ g') (o : Nat) (u : Value) : (x.setCell ⟨g', o, none⟩ u).ownsRow base e size (.slice (some ⟨g, 0, none⟩) n cap) n xs := by
  refine ⟨h.1, ?_⟩
  rcases h.2 with ⟨h2, _⟩ | ⟨q, c, cur, hv, hg, hh, r⟩
  · cases h2
  · cases hv
    refine .inr ⟨g, cap, cur, rfl, hg, ?_, r⟩
    rw [heap_setCell_other _ _ _ _ hne]; exact hh

/-- The two rows of the sort: S in block g, D in block g'. -/
structure Pair (w : World) (n g g' : Nat) (S D : List SRec) (x : World) : Prop where
  bel : Below w.heap.size w x
  src : x.ownsRow w.heap.size 57 6 (.slice (some ⟨g, 0, none⟩) n n) n (flat S)
  dst : x.ownsRow w.heap.size 57 6 (.slice (some ⟨g', 0, none⟩) n n) n (flat D)
  ls : S.length = n
  ld : D.length = n
  ne : g ≠ g'
  ok : ∀ r ∈ S, r.ok

theorem Pair.below {w : World} {n g g' : Nat} {S D : List SRec} {x y : World} (h : Pair w n g g' S D x) (hb : Below x.heap.size x y) : Pair w n g g' S D y :=
  ⟨h.bel.trans (hb.mono h.bel.size), owns_below h.src hb (Nat.le_refl _), owns_below h.dst hb (Nat.le_refl _), h.ls, h.ld, h.ne, h.ok⟩
theorem Pair.put {w : World} {n g g' : Nat} {S D : List SRec} {x : World} (h : Pair w n g g' S D x) (k : Nat) (hk : k < n) (r : SRec) : Pair w n g g' S (D.set k r) (setRec x g' k r) := by
  have hg := (h.dst.lt g' rfl).1
  refine ⟨?_, ?_, owns_setRec h.dst k r (by rw [h.ld]; exact hk), h.ls, by rw [List.length_set]; exact h.ld, h.ne, h.ok⟩
  · unfold setRec
    exact (((((h.bel.setCell (by exact hg) _).setCell (by exact hg) _).setCell (by exact hg) _).setCell (by exact hg) _).setCell (by exact hg) _).setCell (by exact hg) _
  · unfold setRec
    exact owns_other (owns_other (owns_other (owns_other (owns_other (owns_other h.src h.ne _ _) h.ne _ _) h.ne _ _) h.ne _ _) h.ne _ _) h.ne _ _
theorem Pair.at {w : World} {n g g' : Nat} {S D : List SRec} {x : World} (h : Pair w n g g' S D x) (k : Nat) (hk : k < n) (j : Nat) (hj : j < 6) : x.cell? ⟨g, k * 6 + j, none⟩ = (S.getD k SRec.zero).cells[j]? := by
  rw [h.src.cellAt _ (by omega), flat_at S k j (by rw [h.ls]; omega) hj]

theorem getD_ok {S : List SRec} (h : ∀ r ∈ S, r.ok) (a : Nat) (ha : a < S.length) : (S.getD a SRec.zero).ok := by
  have e : S.getD a SRec.zero = S[a] := by simp [ha]
  rw [e]; exact h _ (List.getElem_mem ha)

set_option maxRecDepth 100000 in
set_option maxHeartbeats 3200000 in
theorem sortRecs_any (v : Value) (rs : List SRec) (w : World) (hown : SrcAt w v rs.length 6 (flat rs)) (hn : rs.length ≤ 16384) (hok : ∀ r ∈ rs, r.ok) :
    Calls Try.prog 28 #[v] w fun e w' => ∃ g, e = .returned (.slice (some ⟨g, 0, none⟩) rs.length rs.length) ∧ w'.ownsRow w.heap.size 57 6 (.slice (some ⟨g, 0, none⟩) rs.length rs.length) rs.length (flat (msort rs)) ∧ Below w.heap.size w w' := by
  obtain ⟨i0, hi0, hz0, hz1, hz2⟩ := info_parts info57
  have hsz : (Try.prog.info? 57).map (·.size) = some 6 := by rw [hi0]; simp [hz1]
  obtain ⟨n, hnn⟩ : ∃ n, n = rs.length := ⟨_, rfl⟩
  rw [← hnn] at hown hn ⊢
  have HN : Hid (rs.length = n) := hnn.symm
  have HOK : Hid (∀ r ∈ rs, r.ok) := hok
  have hv : ∃ sp sc, v = .slice sp n sc := by
    obtain ⟨_, sp, sc, hv, _⟩ := hown
    exact ⟨sp, sc, hv⟩
  obtain ⟨sp, sc, rfl⟩ := hv
  clear hnn hok
  go_enter Try.func28, Try.ntmps28
  have hm1 : i0.bytes * n ≤ 281474976710656 := by rw [hz2]; omega
  have hm2 : n ≤ maxLen := by unfold maxLen; omega
  go_wp2_with (first
    | (at_make; refine wpList_make_full _ rfl _ _ 55 rfl w.heap.size 57 i0 _ 6 Try.underlying55 hi0 hz0 hz1 .i64 .i64 _ _ n rfl rfl rfl rfl hm1 hm2 (Nat.le_refl _) ?_; intro w1 hown1 hgrow1; rw [made_recs] at hown1)
    | (at_make; refine wpList_make_full _ rfl _ _ 55 rfl w.heap.size 57 i0 _ 6 Try.underlying55 hi0 hz0 hz1 .i64 .i64 _ _ n rfl rfl rfl rfl hm1 hm2 bel2.size ?_; intro w3 hown3 hgrow3)
    | (refine wpList_copy_recs rfl _ _ 55 55 rfl 57 Try.underlying55 6 hsz w.heap.size n w.heap.size (.slice sp n sc) _ (flat rs) rfl rfl hown1 (hown.below (belG (Below.refl _ w) hgrow1 (Nat.le_refl _)) (Nat.le_refl _)) (flat_one rs) ?_; intro w2 hown2 hb2; have bel2 : Below w.heap.size w w2 := (belG (Below.refl _ w) hgrow1 (Nat.le_refl _)).trans hb2))
  rw [made_recs] at hown3
  have P0 : Pair w n w.heap.size w2.heap.size rs (List.replicate n SRec.zero) w3 :=
    ⟨belG bel2 hgrow3 bel2.size, owns_grown hown2 hgrow3, hown3, HN.out, by simp, Nat.ne_of_lt (hown2.lt _ rfl).2, HOK.out⟩
  clear hown2 hown3 hgrow3 bel2 hsz hi0 hz0 hz1 hz2 hown1 hgrow1 hown hb2 hm1 hm2
  go_wp2_with fail
  go_loopw [4, 5, 6] (fun s d wd x => ∃ (g g' W : Nat) (S D : List SRec) (f : Nat), s = .slice (some ⟨g, 0, none⟩) n n ∧ d = .slice (some ⟨g', 0, none⟩) n n ∧ wd = .int .i64 W ∧ 1 ≤ W ∧ W ≤ 2 * n + 1 ∧ n ≤ W + f ∧ sortW f W S = msort rs ∧ Pair w n g g' S D x) (fun _ _ wd _ => n - (intOf wd).toNat)
  case atStart => exact ⟨w.heap.size, w2.heap.size, 1, rs, _, n, rfl, rfl, rfl, by omega, by omega, by omega, by unfold msort; rw [HN.out], P0⟩
  case round =>
    clear P0
    obtain ⟨g, g', W, S, D, f, rfl, rfl, rfl, hW1, hW2, hf, hs, hP⟩ := hrel
    have HS : Hid (sortW f W S = msort rs) := hs
    clear hs
    by_cases hlt : W < n
    case neg =>
      have hlt' : ¬ (W : Int) < n := by omega
      go_wp2_with fail
      go_ret
      refine ⟨g, rfl, ?_, hP.bel⟩
      have e : S = msort rs := by
        rw [← HS.out]
        cases f with
        | zero => rfl
        | succ f => rw [sortW, if_neg (by rw [hP.ls]; omega)]
      rw [← e]; exact hP.src
    case pos =>
      have hlt' : (W : Int) < n := by omega
      go_wp2_with fail
      have E0 : Pair w n g g' S D wr ∧ D.length = n := ⟨hP, hP.ld⟩
      go_loopw [7] (fun lo x => ∃ (l : Nat) (E : List SRec) (F : Nat), lo = .int .i64 l ∧ l ≤ n + 2 * W ∧ n ≤ l + F ∧ E.take l ++ pass F W (S.drop l) = pass n W S ∧ Pair w n g g' S E x) (fun lo _ => n - (intOf lo).toNat)
      case atStart => exact ⟨0, D, n, rfl, by omega, by omega, by simp, hP⟩
      case round =>
        clear hP E0
        obtain ⟨l, E, F, rfl, hl1, hF, he, hP⟩ := hrel
        have HE : Hid (E.take l ++ pass F W (S.drop l) = pass n W S) := he
        clear he
        by_cases hll : l < n
        case neg =>
          have hll' : ¬ (l : Int) < n := by omega
          go_wp2_with fail
          have ee : E = pass n W S := by
            rw [← HE.out, List.drop_eq_nil_of_le (by rw [hP.ls]; omega), pass_nil, List.append_nil, List.take_of_length_le (by rw [hP.ld]; omega)]
          have hpm := pass_perm n W S hW1 (by rw [hP.ls]; omega)
          refine ⟨⟨g', g, W * 2, E, S, f - 1, rfl, rfl, by simp, by omega, by omega, by omega, ?_, ⟨hP.bel, hP.dst, hP.src, hP.ld, hP.ls, hP.ne.symm, fun r hr => hP.ok r (hpm.mem_iff.1 (ee ▸ hr))⟩⟩, by simp [intOf]; omega⟩
          rw [← HS.out]
          obtain ⟨f', rfl⟩ : ∃ f', f = f' + 1 := ⟨f - 1, by omega⟩
          rw [sortW, if_pos (by rw [hP.ls]; exact hlt), ee, Nat.add_sub_cancel, hP.ls, Nat.mul_comm]
        case pos =>
          have hll' : (l : Int) < n := by omega
          go_upto_if 39 with fail
          obtain ⟨mid, hmid⟩ : ∃ mid, mid = min (l + W) n := ⟨_, rfl⟩
          have HM : Hid (mid = min (l + W) n) := hmid
          clear hmid
          go_cut [8] from 27 to 94 (fun m x => m = .int .i64 mid ∧ wr = x)
          case first =>
            by_cases hc : (n : Int) < l + W
            · go_wp2_with fail
              go_meet
              exact ⟨by have := HM.out; congr 1; omega, rfl⟩
            · go_wp2_with fail
              go_meet
              exact ⟨by have := HM.out; congr 1; omega, rfl⟩
          case rest =>
          obtain ⟨rfl, rfl⟩ := hcut
          go_upto_if 47 with fail
          obtain ⟨hi, hhi⟩ : ∃ hi, hi = min (l + 2 * W) n := ⟨_, rfl⟩
          have HI : Hid (hi = min (l + 2 * W) n) := hhi
          clear hhi
          go_cut [9] from 27 to 94 (fun m x => m = .int .i64 hi ∧ wr = x)
          case first =>
            by_cases hc : (n : Int) < l + 2 * W
            · go_wp2_with fail
              go_meet
              exact ⟨by have := HI.out; congr 1; omega, rfl⟩
            · go_wp2_with fail
              go_meet
              exact ⟨by have := HI.out; congr 1; omega, rfl⟩
          case rest =>
          obtain ⟨rfl, rfl⟩ := hcut
          have m1 : l ≤ mid := by have := HM.out; omega
          have m2 : mid ≤ hi := by have := HM.out; have := HI.out; omega
          have m3 : hi ≤ n := by have := HI.out; omega
          have m4 : l < hi := by have := HI.out; omega
          go_wp2_with fail
          obtain ⟨T, hT⟩ : ∃ T, T = E.take l ++ List.merge (seg S l mid) (seg S mid hi) rle := ⟨_, rfl⟩
          have HT : Hid (T = E.take l ++ List.merge (seg S l mid) (seg S mid hi) rle) := hT
          clear hT
          go_loopw [10, 11, 12] (fun i j k x => ∃ (a b c : Nat) (G : List SRec), i = .int .i64 a ∧ j = .int .i64 b ∧ k = .int .i64 c ∧ a ≤ mid ∧ mid ≤ b ∧ b ≤ hi ∧ c + mid = a + b ∧ G.take c ++ List.merge (seg S a mid) (seg S b hi) rle = T ∧ Pair w n g g' S G x) (fun _ _ k _ => hi - (intOf k).toNat)
          case atStart => exact ⟨l, mid, l, E, rfl, rfl, rfl, m1, Nat.le_refl _, m2, by omega, HT.out.symm, hP⟩
          case round =>
            clear hP
            obtain ⟨a, b, c, G, rfl, rfl, rfl, q1, q2, q3, q4, hg, hP⟩ := hrel
            have HG : Hid (G.take c ++ List.merge (seg S a mid) (seg S b hi) rle = T) := hg
            clear hg
            by_cases hc : c < hi
            case neg =>
              have hc' : ¬ (c : Int) < hi := by omega
              go_wp2_with fail
              have hce : c = hi := by omega
              have hae : a = mid := by omega
              have hbe : b = hi := by omega
              subst hce hae hbe
              have hG : G.take b = T := by
                rw [← HG.out, seg_nil S a a (Nat.le_refl _), seg_nil S b b (Nat.le_refl _), List.nil_merge, List.append_nil]
              have hG2 : G.take (l + 2 * W) = G.take b := by
                apply List.take_eq_take_iff.2
                have := HI.out; rw [hP.ld]; omega
              refine ⟨⟨l + 2 * W, G, F - 1, by simp, by omega, by omega, ?_, hP⟩, by simp [intOf]; omega⟩
              obtain ⟨F', rfl⟩ : ∃ F', F = F' + 1 := ⟨F - 1, by omega⟩
              rw [hG2, hG, HT.out, Nat.add_sub_cancel, List.append_assoc, ← pass_step F' W l a b S (by rw [hP.ls]; exact hll) (by rw [hP.ls]; exact HM.out) (by rw [hP.ls]; exact HI.out)]
              exact HE.out
            case pos =>
              have hc' : (c : Int) < hi := by omega
              go_upto_region 22 with fail
              have hn0 : c < n := by omega
              obtain ⟨ra, hra⟩ : ∃ r, r = S.getD a SRec.zero := ⟨_, rfl⟩
              obtain ⟨rb, hrb⟩ : ∃ r, r = S.getD b SRec.zero := ⟨_, rfl⟩
              have HA : Hid (S.getD a SRec.zero = ra) := hra.symm
              have HB : Hid (S.getD b SRec.zero = rb) := hrb.symm
              clear hra hrb
              go_cut [76] from 52 to 94 (fun t x => t = .bool (decide (a < mid ∧ (hi ≤ b ∨ recCmp ra rb ≤ 0))) ∧ Below wr.heap.size wr x)
              case first =>
                by_cases ha : a < mid
                case neg =>
                  have h1 : decide ((a : Int) < mid) = false := by simp; omega
                  go_quiet (fail)
                  go_wp2_with fail
                  go_meet
                  exact ⟨by congr 1; simp; omega, bel_drewN (Below.refl _ wr) _⟩
                case pos =>
                  have h1 : decide ((a : Int) < mid) = true := by simp; omega
                  by_cases hb : hi ≤ b
                  · have h2 : decide ((hi : Int) ≤ b) = true := by simp; omega
                    go_quiet (fail)
                    go_wp2_with fail
                    go_meet
                    exact ⟨by congr 1; simp; omega, bel_drewN (Below.refl _ wr) _⟩
                  · have h2 : decide ((hi : Int) ≤ b) = false := by simp; omega
                    have rk : ∀ j, j < 6 → wr.cell? ⟨g, a * 6 + j, none⟩ = ra.cells[j]? := fun j hj => by rw [hP.at a (by omega) j hj, HA.out]
                    have rp : ∀ j, j < 6 → wr.cell? ⟨g, b * 6 + j, none⟩ = rb.cells[j]? := fun j hj => by rw [hP.at b (by omega) j hj, HB.out]
                    have k0 := rk 0 (by omega)
                    have k1 := rk 1 (by omega)
                    have k2 := rk 2 (by omega)
                    have k3 := rk 3 (by omega)
                    have k4 := rk 4 (by omega)
                    have k5 := rk 5 (by omega)
                    have p0 := rp 0 (by omega)
                    have p1 := rp 1 (by omega)
                    have p2 := rp 2 (by omega)
                    have p3 := rp 3 (by omega)
                    have p4 := rp 4 (by omega)
                    have p5 := rp 5 (by omega)
                    simp [SRec.cells] at k0 k1 k2 k3 k4 k5 p0 p1 p2 p3 p4 p5
                    have oka : Hid ra.ok := by
                      show ra.ok
                      rw [← HA.out]; exact getD_ok hP.ok a (by rw [hP.ls]; omega)
                    have okb : Hid rb.ok := by
                      show rb.ok
                      rw [← HB.out]; exact getD_ok hP.ok b (by rw [hP.ls]; omega)
                    have g1 : (0 : Int) ≤ a := by omega
                    have g2 : (a : Int) < n := by omega
                    have g3 : (0 : Int) ≤ b := by omega
                    have g4 : (b : Int) < n := by omega
                    clear rk rp
                    have hlg := (hP.src.lt g rfl).2
                    have HR : Hid (recCmp ra rb ≤ 0 ↔ (a < mid ∧ (hi ≤ b ∨ recCmp ra rb ≤ 0))) := ⟨fun h => ⟨ha, .inr h⟩, fun h => h.2.resolve_left hb⟩
                    go_region_held3 (fun x => x.cell? ⟨g, a * 6, none⟩ = some (.int .u8 ra.side) ∧ x.cell? ⟨g, a * 6 + 1, none⟩ = some (.int .i64 ra.key) ∧ x.cell? ⟨g, a * 6 + 2, none⟩ = some (.int .i64 ra.stamp) ∧ x.cell? ⟨g, a * 6 + 3, none⟩ = some (.int .i64 ra.price) ∧ x.cell? ⟨g, a * 6 + 4, none⟩ = some (.int .i64 ra.id) ∧ x.cell? ⟨g, a * 6 + 5, none⟩ = some (.int .i64 ra.rem) ∧
                        x.cell? ⟨g, b * 6, none⟩ = some (.int .u8 rb.side) ∧ x.cell? ⟨g, b * 6 + 1, none⟩ = some (.int .i64 rb.key) ∧ x.cell? ⟨g, b * 6 + 2, none⟩ = some (.int .i64 rb.stamp) ∧ x.cell? ⟨g, b * 6 + 3, none⟩ = some (.int .i64 rb.price) ∧ x.cell? ⟨g, b * 6 + 4, none⟩ = some (.int .i64 rb.id) ∧ x.cell? ⟨g, b * 6 + 5, none⟩ = some (.int .i64 rb.rem))
                      (go_keep)
                      ((go_at_call 36; refine (cmpRec_any ra rb oka.out okb.out _).mono ?_; rintro e w' ⟨rfl, hbel⟩; have hw1 := fun o => hbel.cell (p := ⟨g, o, none⟩) hlg))
                    all_goals
                      go_wp2_with fail
                      go_meet
                      exact ⟨by congr 1; exact decide_eq_decide.2 HR.out, (Below.refl _ wr).drew.trans hbel⟩
              case rest =>
              obtain ⟨rfl, hbel⟩ := hcut
              have hQ := hP.below hbel
              clear hP hbel
              have rq : ∀ j, j < 6 → wc.cell? ⟨g', c * 6 + j, none⟩ = (G.getD c SRec.zero).cells[j]? := fun j hj => by rw [hQ.dst.cellAt _ (by omega), flat_at G c j (by rw [hQ.ld]; omega) hj]
              have fr : ∀ j, wc.frozen? ⟨g', j, none⟩ = false := fun j => hQ.dst.frozenAt j
              generalize G.getD c SRec.zero = rc at rq
              have d0 := rq 0 (by omega)
              have d1 := rq 1 (by omega)
              have d2 := rq 2 (by omega)
              have d3 := rq 3 (by omega)
              have d4 := rq 4 (by omega)
              have d5 := rq 5 (by omega)
              simp [SRec.cells] at d0 d1 d2 d3 d4 d5
              clear rq
              have g5 : (0 : Int) ≤ c := by omega
              have g6 : (c : Int) < n := by omega
              by_cases hC : a < mid ∧ (hi ≤ b ∨ recCmp ra rb ≤ 0)
              · have hd : decide (a < mid ∧ (hi ≤ b ∨ recCmp ra rb ≤ 0)) = true := decide_eq_true hC
                rw [hd]
                have HC : Hid (a < mid ∧ (hi ≤ b ∨ recCmp ra rb ≤ 0)) := hC
                have ha : a < mid := hC.1
                clear hd hC
                have rk : ∀ j, j < 6 → wc.cell? ⟨g, a * 6 + j, none⟩ = ra.cells[j]? := fun j hj => by rw [hQ.at a (by omega) j hj, HA.out]
                have k0 := rk 0 (by omega)
                have k1 := rk 1 (by omega)
                have k2 := rk 2 (by omega)
                have k3 := rk 3 (by omega)
                have k4 := rk 4 (by omega)
                have k5 := rk 5 (by omega)
                simp [SRec.cells] at k0 k1 k2 k3 k4 k5
                have g1 : (0 : Int) ≤ a := by omega
                have g2 : (a : Int) < n := by omega
                clear rk
                go_wp2_with fail
                refine ⟨⟨a + 1, b, c + 1, G.set c ra, by simp, rfl, by simp, by omega, q2, q3, by omega, ?_, hQ.put c hn0 ra⟩, by simp [intOf]; omega⟩
                have hm := merge_left S a mid b hi ha (by rw [hQ.ls]; omega) (by rw [hQ.ls]; omega) (by rw [HA.out, HB.out]; exact HC.out.2)
                rw [← HG.out, hm, HA.out, take_set_snoc G c ra (by rw [hQ.ld]; exact hn0), List.append_assoc, List.singleton_append]
              · have hd : decide (a < mid ∧ (hi ≤ b ∨ recCmp ra rb ≤ 0)) = false := decide_eq_false hC
                rw [hd]
                have HC : Hid (¬ (a < mid ∧ (hi ≤ b ∨ recCmp ra rb ≤ 0))) := hC
                have ha : b < hi := by omega
                clear hd hC
                have rk : ∀ j, j < 6 → wc.cell? ⟨g, b * 6 + j, none⟩ = rb.cells[j]? := fun j hj => by rw [hQ.at b (by omega) j hj, HB.out]
                have k0 := rk 0 (by omega)
                have k1 := rk 1 (by omega)
                have k2 := rk 2 (by omega)
                have k3 := rk 3 (by omega)
                have k4 := rk 4 (by omega)
                have k5 := rk 5 (by omega)
                simp [SRec.cells] at k0 k1 k2 k3 k4 k5
                have g1 : (0 : Int) ≤ b := by omega
                have g2 : (b : Int) < n := by omega
                clear rk
                go_wp2_with fail
                refine ⟨⟨a, b + 1, c + 1, G.set c rb, rfl, by simp, by simp, q1, by omega, by omega, by omega, ?_, hQ.put c hn0 rb⟩, by simp [intOf]; omega⟩
                have hm := merge_right' S a mid b hi ha (by rw [hQ.ls]; omega) (by rw [hQ.ls]; omega) (by rw [HA.out, HB.out]; exact fun h => HC.out ⟨h.1, .inr h.2⟩)
                rw [← HG.out, hm, HB.out, take_set_snoc G c rb (by rw [hQ.ld]; exact hn0), List.append_assoc, List.singleton_append]
end Go.Proofs.Qxb6616641a
