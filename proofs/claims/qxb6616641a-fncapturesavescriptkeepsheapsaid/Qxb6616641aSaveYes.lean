import Derived.Test.Qxb6616641aSaveNo
namespace Go.Proofs.Qxb6616641a
open Go.RowKit
set_option linter.unusedVariables false
attribute [local go_sem ↓] Go.wp_at_zero Go.wp_at_succ
attribute [local go_sem] alloc_drewN setCell_drewN

set_option maxRecDepth 100000 in
set_option maxHeartbeats 4000000 in
theorem save_yes (c b o l base lo : Nat) (seq n : Int) (cur : Option Addr) (ls lk lt id sd price rem stamp saved rd : Int) (v : Value) (rs : List SRec) (A : Addr → Prop) (w : World)
    (hc : CapAt w c seq n cur ls lk lt) (hO : OrdAt w o l id sd price rem stamp saved) (hb : BookAt w b rd v) (hs : sd = 1 ∨ sd = 2) (h : decide (seq < stamp) = false) (h' : (saved == n) = false)
    (hcase : (rd == n) = false ∨ ((rd == n) = true ∧ cur = some ⟨b, 0, none⟩ ∧ decide (cmpPos sd (keyV sd price) stamp ls lk lt ≤ 0) = false))
    (hown : w.ownsRow base 114 6 v rs.length (flat rs)) (hn : rs.length ≤ 1048576) (hbase : base ≤ w.heap.size) (lb : b < base) (lob : o < base) (llb : l < base) (lo1 : lo ≤ b) (lo2 : lo ≤ o) (hA1 : A ⟨b, 32, none⟩) (hA2 : A ⟨o, 4, none⟩) :
    Calls Try.prog 35 #[.pointer (some ⟨c, 0, none⟩), .pointer (some ⟨b, 0, none⟩), .pointer (some ⟨o, 0, none⟩)] w fun e w' => e = .returned (.tuple #[]) ∧
      ∃ v', w'.cell? ⟨b, 32, none⟩ = some v' ∧ w'.ownsRow base 114 6 v' (rs.length + 1) (flat (hpush rs ⟨sd, keyV sd price, stamp, price, id, rem⟩)) ∧ w'.cell? ⟨o, 4, none⟩ = some (.int .u64 n) ∧ KeepS base lo A w w' := by
  have hl := ladOff_cell hb sd hs
  obtain ⟨c0, c1, c6, c7, c8, c9⟩ := hc
  obtain ⟨o0, o1, o2, o3, o4, o5, l0, ofr⟩ := hO
  obtain ⟨b2, b11, b31, b32, bfr⟩ := hb
  clear hs
  have nc := World.new_ne w _ c0
  have no := World.new_ne w _ o0
  have nb := World.new_ne w _ b2
  have nl := World.new_ne w _ l0
  simp only at nc no nb nl
  go_enter Try.func35, Try.ntmps35
  go_wp2
  go_quiet (fail)
  go_wp2
  go_cut [6] (fun p x => p = .pointer (some ⟨w.heap.size, 0, none⟩) ∧ ∃ k, x = (w.alloc (.cells #[.int .u8 sd, .int .i64 (keyV sd price), .int .i64 stamp] 61)).drewN k)
  case first =>
    go_region_held3 (fun x => x.cell? ⟨o, 1, none⟩ = some (.int .u8 sd) ∧ x.cell? ⟨o, 3, none⟩ = some (.int .i64 stamp) ∧ x.cell? ⟨o, 5, none⟩ = some (.pointer (some ⟨l, 0, none⟩)) ∧ x.cell? ⟨l, 0, none⟩ = some (.int .i64 price) ∧ x.cell? ⟨b, ladOff sd, none⟩ = some (.int .u8 sd)) (go_keep)
      (first
        | (go_at_call 32; refine (ladder_any b sd _).mono ?_; rintro e w' ⟨rfl, rfl⟩)
        | (go_at_call 34; refine (levelKey_any ⟨b, ladOff sd, none⟩ sd price _ ?_).mono ?_; (simp [*]); rintro e w' ⟨rfl, rfl⟩))
    all_goals
      go_wp2_with fail
      go_meet
      exact ⟨rfl, _, rfl⟩
  case rest =>
    obtain ⟨rfl, k, hk⟩ := hcut
    have lc := World.block_lt_of_cell? w _ c0
    have lo' := World.block_lt_of_cell? w _ o0
    have lb' := World.block_lt_of_cell? w _ b2
    have ll' := World.block_lt_of_cell? w _ l0
    simp only at lc lo' lb' ll'
    have hb1 : Below w.heap.size w wc := by rw [hk]; exact bel_one _ _ _
    have hz1 : w.heap.size < wc.heap.size := by rw [hk]; exact lt_new _ _ _ _ (Nat.le_refl _)
    have hp0 : wc.cell? ⟨w.heap.size, 0, none⟩ = some (.int .u8 sd) := by rw [hk]; simp
    have hp1 : wc.cell? ⟨w.heap.size, 1, none⟩ = some (.int .i64 (keyV sd price)) := by rw [hk]; simp
    have hp2 : wc.cell? ⟨w.heap.size, 2, none⟩ = some (.int .i64 stamp) := by rw [hk]; simp
    clear hk
    obtain ⟨wx, hwx⟩ : ∃ wx, wx = wc := ⟨_, rfl⟩
    rw [← hwx] at hb1 hz1 hp0 hp1 hp2 ⊢
    clear hwx
    have d1 := (hb1.cell (p := ⟨c, 1, none⟩) lc).trans c1
    have d6 := (hb1.cell (p := ⟨c, 6, none⟩) lc).trans c6
    have d7 := (hb1.cell (p := ⟨c, 7, none⟩) lc).trans c7
    have d8 := (hb1.cell (p := ⟨c, 8, none⟩) lc).trans c8
    have d9 := (hb1.cell (p := ⟨c, 9, none⟩) lc).trans c9
    have e31 := (hb1.cell (p := ⟨b, 31, none⟩) lb').trans b31
    go_wp2_with fail
    go_cut [75] (fun t x => t = .bool false ∧ Below wx.heap.size wx x)
    case first =>
      rcases hcase with h2 | ⟨h2, hcur, hle⟩
      · go_quiet (fail)
        go_wp2_with fail
        go_meet
        exact ⟨rfl, bel_drewN (Below.refl _ _) _⟩
      · subst hcur
        have q1 := neq27_same b
        go_region_held3 (fun x => x.cell? ⟨c, 1, none⟩ = some (.int .u64 n) ∧ x.cell? ⟨c, 6, none⟩ = some (.pointer (some ⟨b, 0, none⟩)) ∧ x.cell? ⟨c, 7, none⟩ = some (.int .u8 ls) ∧ x.cell? ⟨c, 8, none⟩ = some (.int .i64 lk) ∧ x.cell? ⟨c, 9, none⟩ = some (.int .i64 lt) ∧ x.cell? ⟨b, 31, none⟩ = some (.int .u64 rd) ∧ x.cell? ⟨w.heap.size, 0, none⟩ = some (.int .u8 sd) ∧ x.cell? ⟨w.heap.size, 1, none⟩ = some (.int .i64 (keyV sd price)) ∧ x.cell? ⟨w.heap.size, 2, none⟩ = some (.int .i64 stamp))
          (go_keep)
          ((go_at_call 29; refine (compare_any _ _ _ _ _ _ _).mono ?_; rintro e w' ⟨rfl, hbel⟩; have hw0 := fun o => hbel.cell (p := ⟨w.heap.size, o, none⟩) hz1; have hw1 := fun o => hbel.cell (p := ⟨c, o, none⟩) (Nat.lt_trans lc hz1); have hw2 := fun o => hbel.cell (p := ⟨b, o, none⟩) (Nat.lt_trans lb' hz1)))
        all_goals
          go_wp2_with fail
          go_meet
          exact ⟨by simp, (Below.refl _ _).drew.trans hbel⟩
    case rest =>
      obtain ⟨rfl, hb2⟩ := hcut
      have hb3 : Below w.heap.size w wc := hb1.trans (hb2.mono (Nat.le_of_lt hz1))
      have q0 := (hb2.cell (p := ⟨w.heap.size, 0, none⟩) hz1).trans hp0
      have q1 := (hb2.cell (p := ⟨w.heap.size, 1, none⟩) hz1).trans hp1
      have q2 := (hb2.cell (p := ⟨w.heap.size, 2, none⟩) hz1).trans hp2
      have hz2 : w.heap.size < wc.heap.size := Nat.lt_of_lt_of_le hz1 hb2.size
      clear hb2 hp0 hp1 hp2 d1 d6 d7 d8 d9 e31 hb1 hz1 hcase
      have d1 := (hb3.cell (p := ⟨c, 1, none⟩) lc).trans c1
      have x0 := (hb3.cell (p := ⟨o, 0, none⟩) lo').trans o0
      have x2 := (hb3.cell (p := ⟨o, 2, none⟩) lo').trans o2
      have x4 := (hb3.cell (p := ⟨o, 4, none⟩) lo').trans o4
      have x5 := (hb3.cell (p := ⟨o, 5, none⟩) lo').trans o5
      have x4f := (hb3.frozen (p := ⟨o, 4, none⟩) lo').trans ofr
      have y0 := (hb3.cell (p := ⟨l, 0, none⟩) ll').trans l0
      have z32 := (hb3.cell (p := ⟨b, 32, none⟩) lb').trans b32
      have z32f := (hb3.frozen (p := ⟨b, 32, none⟩) lb').trans bfr
      have hownLt := fun k e => (hown.lt k e).2
      have HO : Hid (wc.ownsRow base 114 6 v rs.length (flat rs)) := owns_below hown hb3 (Nat.le_refl _)
      have HF : Hid (wc.frozen? ⟨b, 32, none⟩ = false) := z32f
      have HB : Hid (Below w.heap.size w wc) := hb3
      clear c0 c1 c6 c7 c8 c9 o0 o1 o2 o3 o4 o5 l0 b2 b11 b31 b32 bfr ofr hown hl z32f hb3
      go_wp2_with fail
      generalize hW : wc.setCell ⟨o, 4, none⟩ (.int .u64 n) = W
      have s0 : W.cell? ⟨o, 0, none⟩ = some (.int .i64 id) := by rw [← hW, World.cell?_setCell_other _ _ _ _ (by simp)]; exact x0
      have s2 : W.cell? ⟨o, 2, none⟩ = some (.int .i64 rem) := by rw [← hW, World.cell?_setCell_other _ _ _ _ (by simp)]; exact x2
      have s4 : W.cell? ⟨o, 4, none⟩ = some (.int .u64 n) := by rw [← hW]; exact World.cell?_setCell_same _ _ _ x4
      have s5 : W.cell? ⟨o, 5, none⟩ = some (.pointer (some ⟨l, 0, none⟩)) := by rw [← hW, World.cell?_setCell_other _ _ _ _ (by simp)]; exact x5
      have t0 : W.cell? ⟨l, 0, none⟩ = some (.int .i64 price) := by rw [← hW, World.cell?_setCell_other _ _ _ _ (by simp)]; exact y0
      have r0 : W.cell? ⟨w.heap.size, 0, none⟩ = some (.int .u8 sd) := by rw [← hW, World.cell?_setCell_other _ _ _ _ (by simp)]; exact q0
      have r1 : W.cell? ⟨w.heap.size, 1, none⟩ = some (.int .i64 (keyV sd price)) := by rw [← hW, World.cell?_setCell_other _ _ _ _ (by simp)]; exact q1
      have r2 : W.cell? ⟨w.heap.size, 2, none⟩ = some (.int .i64 stamp) := by rw [← hW, World.cell?_setCell_other _ _ _ _ (by simp)]; exact q2
      have u32 : W.cell? ⟨b, 32, none⟩ = some v := by rw [← hW, World.cell?_setCell_other _ _ _ _ (by simp)]; exact z32
      have HF2 : Hid (W.frozen? ⟨b, 32, none⟩ = false) := by show W.frozen? _ = false; rw [← hW, World.frozen?_setCell]; exact HF.out
      have HO2 : Hid (W.ownsRow base 114 6 v rs.length (flat rs)) := by show W.ownsRow _ _ _ _ _ _; rw [← hW]; exact owns_setCell_far HO.out lob _
      have hsz : W.heap.size = wc.heap.size := by rw [← hW]; simp [World.setCell]
      have HZ : Hid (w.heap.size < W.heap.size) := by show w.heap.size < W.heap.size; omega
      have HK : Hid (KeepS base lo A w W) := by show KeepS base lo A w W; rw [← hW]; exact (KeepS.of_below HB.out hbase (by omega)).setCell hA2 lo2 _
      have n1 : v.ownBlock ≠ some o := fun e => by have := (HO.out.lt _ e).1; omega
      have n2 : v.ownBlock ≠ some l := fun e => by have := (HO.out.lt _ e).1; omega
      have n3 : v.ownBlock ≠ some w.heap.size := fun e => by have := (hownLt _ e); omega
      clear x0 x2 x4 x5 y0 q0 q1 q2 z32 HF HO HB hsz hW x4f d1
      go_region_held3 (fun x => x.cell? ⟨o, 0, none⟩ = some (.int .i64 id) ∧ x.cell? ⟨o, 2, none⟩ = some (.int .i64 rem) ∧ x.cell? ⟨o, 5, none⟩ = some (.pointer (some ⟨l, 0, none⟩)) ∧ x.cell? ⟨l, 0, none⟩ = some (.int .i64 price) ∧ x.cell? ⟨w.heap.size, 0, none⟩ = some (.int .u8 sd) ∧ x.cell? ⟨w.heap.size, 1, none⟩ = some (.int .i64 (keyV sd price)) ∧ x.cell? ⟨w.heap.size, 2, none⟩ = some (.int .i64 stamp))
        (go_keep)
        ((go_at_call 40; refine (push_any b 32 base v rs ⟨sd, keyV sd price, stamp, price, id, rem⟩ W.drew u32 HF2.out lb (Nat.le_trans hbase (Nat.le_of_lt HZ.out)) HO2.out.drew hn).mono ?_; rintro e w' ⟨rfl, v', hv', hown', hk'⟩; have hw0 := fun j (hj : j ≠ 32 ∨ o ≠ b) => hk'.cell ⟨o, j, none⟩ (Nat.lt_trans lo' HZ.out) n1 (ne_at hj); have hw1 := hk'.cell ⟨l, 0, none⟩ (Nat.lt_trans ll' HZ.out) n2 (ne_at (Or.inl (by decide))); have hw2 := fun j (hj : j ≠ 32) => hk'.cell ⟨w.heap.size, j, none⟩ HZ.out n3 (ne_at (Or.inl hj)))) 
      go_wp2_with fail
      go_end0
      refine ⟨rfl, v', hv', hown', ?_, ?_⟩
      · exact (hw0 4 (Or.inl (by decide))).trans s4
      · exact HK.out.trans ((KeepS.of_below (Below.refl W.heap.size W).drew (Nat.le_trans hbase (Nat.le_of_lt HZ.out)) (by have := HZ.out; omega)).trans (KeepS.of_keepB hk' hA1 lo1 lb (Nat.le_trans hbase (Nat.le_of_lt HZ.out)) (fun k hk => (HO2.out.lt k hk).1)))
end Go.Proofs.Qxb6616641a
