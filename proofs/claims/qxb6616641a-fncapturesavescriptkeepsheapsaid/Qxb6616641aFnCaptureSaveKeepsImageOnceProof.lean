import Derived.Test.Qxb6616641aImageWalks
import Derived.ProofKit
import Derived.OpenShut
import Derived.ShutString
import Derived.ChangeOld
import Derived.Below
namespace Go.Proofs.Qxb6616641a.fnCaptureSaveKeepsImageOnce
open Go.ChangeShapes Go.WideShapes Go.ChangeAt Go.RowKit
open Go.ChangeMaps (open_string shut_string)
set_option linter.unusedVariables false

theorem own : ownKnob Try.prog.godebug = none := by kernel_rfl
theorem laidOut : laidOutB Try.prog = true := by kernel_rfl
theorem cells37 : Try.prog.cellsOf 37 = 3 := by kernel_rfl
theorem cells39 : Try.prog.cellsOf 39 = 6 := by kernel_rfl
theorem cells2 : Try.prog.cellsOf 2 = 1 := by kernel_rfl
theorem cells5 : Try.prog.cellsOf 5 = 1 := by kernel_rfl
theorem cells25 : Try.prog.cellsOf 25 = 1 := by kernel_rfl

theorem i64_of_wf {x : Int} (h : (Lit.int .i64 x).wf = true) : I64 x := by
  simp [Lit.wf, IntKind.min, IntKind.max, IntKind.signed, IntKind.bits] at h
  exact ⟨by omega, by omega⟩

section
variable {H : Type} {enc : TypeId × Value → H} {w : World} {base : Nat} {spare : Nat → Bool} {held : Bool} {fuel : Nat} {cs : List Value} {x : DataW H × List MemPlace}

theorem list6 {α : Type} {l : List α} (h : l.length = 6) : ∃ c0 c1 c2 c3 c4 c5, l = [c0, c1, c2, c3, c4, c5] := by
  match l, h with
  | [c0, c1, c2, c3, c4, c5], _ => exact ⟨c0, c1, c2, c3, c4, c5, rfl⟩
theorem list3 {α : Type} {l : List α} (h : l.length = 3) : ∃ c0 c1 c2, l = [c0, c1, c2] := by
  match l, h with
  | [c0, c1, c2], _ => exact ⟨c0, c1, c2, rfl⟩

/-- A position, read: its three numbers. -/
theorem pos_trod (h : DataW.trod enc Try.prog w base spare held fuel 37 cs = some x) :
    ∃ ls lk lt : Int, cs = [.int .u8 ls, .int .i64 lk, .int .i64 lt] ∧ I64 lk ∧ I64 lt := by
  obtain ⟨xs, n, _, _, hl, hlen, hf⟩ := DataW.trod_struct Try.underlying37 h
  rw [cells37] at hl
  obtain ⟨c0, c1, c2, rfl⟩ := list3 hl
  obtain ⟨y0, y1, y2, rfl⟩ := list3 (by simpa using hlen)
  have h0 := hf 0 _ rfl
  have h1 := hf 1 _ rfl
  have h2 := hf 2 _ rfl
  simp [cells2, cells5] at h0 h1 h2
  obtain ⟨ls, e0, _, _⟩ := DataW.trod_int Try.underlying5 h0
  obtain ⟨lk, e1, _, w1⟩ := DataW.trod_int Try.underlying2 h1
  obtain ⟨lt, e2, _, w2⟩ := DataW.trod_int Try.underlying2 h2
  simp at e0 e1 e2
  subst e0 e1 e2
  exact ⟨ls, lk, lt, rfl, i64_of_wf w1, i64_of_wf w2⟩

/-- An order, read: its six numbers. -/
theorem order_trod (h : DataW.trod enc Try.prog w base spare held fuel 39 cs = some x) :
    ∃ id sd price rem stamp saved : Int, cs = [.int .i64 id, .int .u8 sd, .int .i64 price, .int .i64 rem, .int .i64 stamp, .int .u64 saved] ∧ I64 price ∧ I64 stamp := by
  obtain ⟨xs, n, _, _, hl, hlen, hf⟩ := DataW.trod_struct Try.underlying39 h
  rw [cells39] at hl
  obtain ⟨c0, c1, c2, c3, c4, c5, rfl⟩ := list6 hl
  obtain ⟨y0, y1, y2, y3, y4, y5, rfl⟩ := list6 (by simpa using hlen)
  have h0 := hf 0 _ rfl
  have h1 := hf 1 _ rfl
  have h2 := hf 2 _ rfl
  have h3 := hf 3 _ rfl
  have h4 := hf 4 _ rfl
  have h5 := hf 5 _ rfl
  simp [cells2, cells5, cells25] at h0 h1 h2 h3 h4 h5
  obtain ⟨id, e0, _, _⟩ := DataW.trod_int Try.underlying2 h0
  obtain ⟨sd, e1, _, _⟩ := DataW.trod_int Try.underlying5 h1
  obtain ⟨price, e2, _, w2⟩ := DataW.trod_int Try.underlying2 h2
  obtain ⟨rem, e3, _, _⟩ := DataW.trod_int Try.underlying2 h3
  obtain ⟨stamp, e4, _, w4⟩ := DataW.trod_int Try.underlying2 h4
  obtain ⟨saved, e5, _, _⟩ := DataW.trod_int Try.underlying25 h5
  simp at e0 e1 e2 e3 e4 e5
  subst e0 e1 e2 e3 e4 e5
  exact ⟨id, sd, price, rem, stamp, saved, rfl, i64_of_wf w2, i64_of_wf w4⟩
end

theorem law4_side (seq n rd : Int) (c : Bool) (ls lk lt id sd price rem stamp saved : Int) (w : World) (h1 : (sd != 1) = true) (h2 : (sd != 2) = true) :
    Calls Try.prog 8 #[.int .i64 seq, .int .u64 n, .int .u64 rd, .bool c, .agg #[.int .u8 ls, .int .i64 lk, .int .i64 lt], .agg #[.int .i64 id, .int .u8 sd, .int .i64 price, .int .i64 rem, .int .i64 stamp, .int .u64 saved]] w
      fun e w' => e = .returned (.bool true) ∧ Below w.heap.size w w' := by
  go_enter Try.func8, Try.ntmps8
  go_wp2
  go_ret
  exact ⟨rfl, bel_two _ _ _⟩

theorem walk (seq n rd : Int) (c : Bool) (ls lk lt id sd price rem stamp saved : Int) (w : World) (hp : I64 price) (ht : I64 stamp) (hlk : I64 lk) (hlt : I64 lt) :
    Calls Try.prog 8 #[.int .i64 seq, .int .u64 n, .int .u64 rd, .bool c, .agg #[.int .u8 ls, .int .i64 lk, .int .i64 lt], .agg #[.int .i64 id, .int .u8 sd, .int .i64 price, .int .i64 rem, .int .i64 stamp, .int .u64 saved]] w
      fun e w' => e = .returned (.bool true) ∧ Below w.heap.size w w' := by
  by_cases h1 : sd = 1 ∨ sd = 2
  · cases hm : mustB seq n rd c ls lk lt sd price stamp saved
    · exact law4_no seq n rd c ls lk lt id sd price rem stamp saved w h1 hp ht hlk hlt hm
    · exact law4_yes seq n rd c ls lk lt id sd price rem stamp saved w h1 hp ht hlk hlt hm
  · exact law4_side seq n rd c ls lk lt id sd price rem stamp saved w (by simp; omega) (by simp; omega)

set_option maxRecDepth 100000 in
theorem lifted (os : Os) (started : os.Started) (H : Type) (enc : TypeId × Value → H) :
    ReturnsInHanded {} Try.checked os 8 .any (Rows.fnCaptureSaveKeepsImageOnceSpec.pre6 enc Try.prog Try.f8 Rows.fnCaptureSaveKeepsImageOnceRow.domain false) (Rows.fnCaptureSaveKeepsImageOnceSpec.post enc Try.prog Try.f8 false true false false) := by
  refine returnsInHanded_of_change (C := Try.checked) own started (by kernel_rfl) Try.func8
    (ChangeSpec.witness6 (enc := enc) (C := Try.checked) false ⟨#[], #[.int .i64 0, .int .u64 0, .int .u64 0, .bool false, .agg #[.int .u8 0, .int .i64 0, .int .i64 0], .agg #[.int .i64 0, .int .u8 0, .int .i64 0, .int .i64 0, .int .i64 0, .int .u64 0]], []⟩ 8 (by kernel_rfl) (by kernel_rfl) (by kernel_rfl) (by kernel_rfl)) ?_
  intro W base args ds gs before hval0 hW hcnd _
  have hval : ∀ (j : Nat) t v, Try.f8.params[j]? = some t → args[j]? = some v → Value.okWide Try.prog W .any base t v := hval0
  have hW' := hW
  obtain ⟨p, q, hA0, hV, rfl, hfz, hnd⟩ := hW
  have hA : DataW.TrodAll enc Try.prog W 0 (fun _ => true) true Try.f8.params.toList args.toList ds p := hA0
  rw [Try.params8] at hA hval
  obtain ⟨v0, vs0, d0, ds0, p0, q0, hargs, rfl, rfl, h0, r0⟩ := trodAll_cons hA
  obtain ⟨v1, vs1, d1, ds1, p1, q1, rfl, rfl, rfl, h1, r1⟩ := trodAll_cons r0
  obtain ⟨v2, vs2, d2, ds2, p2, q2, rfl, rfl, rfl, h2, r2⟩ := trodAll_cons r1
  obtain ⟨v3, vs3, d3, ds3, p3, q3, rfl, rfl, rfl, h3, r3⟩ := trodAll_cons r2
  obtain ⟨v4, vs4, d4, ds4, p4, q4, rfl, rfl, rfl, h4, r4⟩ := trodAll_cons r3
  obtain ⟨v5, vs5, d5, ds5, p5, q5, rfl, rfl, rfl, h5, r5⟩ := trodAll_cons r4
  obtain ⟨rfl, rfl, rfl⟩ := trodAll_nil r5
  obtain rfl : args = #[v0, v1, v2, v3, v4, v5] := by cases args; simp_all
  obtain ⟨rfl, rfl⟩ := trodVars_none hV
  obtain ⟨a0, rfl, rfl, rfl, w0⟩ := open_int Try.underlying2 (hval 0 2 v0 rfl rfl) h0
  obtain ⟨a1, rfl, rfl, rfl, w1⟩ := open_int Try.underlying25 (hval 1 25 v1 rfl rfl) h1
  obtain ⟨a2, rfl, rfl, rfl, w2⟩ := open_int Try.underlying25 (hval 2 25 v2 rfl rfl) h2
  obtain ⟨a3, rfl, rfl, rfl⟩ := open_bool Try.underlying4 (hval 3 4 v3 rfl rfl) h3
  have k4 := h4
  have k5 := h5
  have lt4 : ∀ x ∈ p4, x.block < W.heap.size := by obtain ⟨m, hm⟩ := k4; exact DataW.trod_lt m _ _ _ hm
  have lt5 : ∀ x ∈ p5, x.block < W.heap.size := by obtain ⟨m, hm⟩ := k5; exact DataW.trod_lt m _ _ _ hm
  obtain ⟨c4, rfl, _⟩ := okWide_struct Try.underlying37 (hval 4 37 v4 rfl rfl)
  obtain ⟨c5, rfl, _⟩ := okWide_struct Try.underlying39 (hval 5 39 v5 rfl rfl)
  obtain ⟨ls, lk, lt, rfl, hlk, hlt⟩ : ∃ ls lk lt : Int, c4 = #[.int .u8 ls, .int .i64 lk, .int .i64 lt] ∧ I64 lk ∧ I64 lt := by
    obtain ⟨m, hm⟩ := h4
    obtain ⟨ls, lk, lt, e, g1, g2⟩ := pos_trod hm
    obtain ⟨l⟩ := c4
    simp [Value.cells] at e
    subst e
    exact ⟨ls, lk, lt, rfl, g1, g2⟩
  obtain ⟨id, sd, price, rem, stamp, saved, rfl, hp, ht⟩ : ∃ id sd price rem stamp saved : Int, c5 = #[.int .i64 id, .int .u8 sd, .int .i64 price, .int .i64 rem, .int .i64 stamp, .int .u64 saved] ∧ I64 price ∧ I64 stamp := by
    obtain ⟨m, hm⟩ := h5
    obtain ⟨id, sd, price, rem, stamp, saved, e, g1, g2⟩ := order_trod hm
    obtain ⟨l⟩ := c5
    simp [Value.cells] at e
    subst e
    exact ⟨id, sd, price, rem, stamp, saved, rfl, g1, g2⟩
  clear hA0 hval0
  refine (walk a0 a1 a2 a3 ls lk lt id sd price rem stamp saved W hp ht hlk hlt).mono fun e W' ⟨he, bel⟩ => ?_
  subst he
  exact ⟨_, rfl, _, _, _, [], _, [], hW', trodAll_mk1 (shut_bool Try.underlying4 _), (trodAll_cons_mk (shut_int Try.underlying2 w0) (trodAll_cons_mk (shut_int Try.underlying25 w1) (trodAll_cons_mk (shut_int Try.underlying25 w2) (trodAll_cons_mk (shut_bool Try.underlying4 _) (trodAll_cons_mk (Below.trod laidOut (by kernel_rfl) (of_decide_eq_true (by kernel_rfl)) k4 bel lt4) (trodAll_cons_mk (Below.trod laidOut (by kernel_rfl) (of_decide_eq_true (by kernel_rfl)) k5 bel lt5) trodAll_mk0)))))), rfl, bel.frame _, fun h => by cases h⟩

theorem over : Rows.fnCaptureSaveKeepsImageOnceRow.holds Try.pinned (OpenSpec.ofChange Rows.fnCaptureSaveKeepsImageOnceSpec) :=
  OpenClaim.holds_of_wide 8 Try.f8 rfl rfl rfl rfl rfl rfl rfl ⟨rfl, rfl, rfl, rfl, rfl⟩ rfl rfl rfl rfl rfl (by kernel_rfl) Try.func8 (by kernel_rfl)
    (of_decide_eq_true (by kernel_rfl)) (by unfold Func.isWrapper; first | (rw [if_pos (by decide +kernel)]; kernel_rfl) | (rw [if_neg (by decide +kernel)]; exact ⟨rfl, rfl⟩))
    (fun os started H enc _ => lifted os started H enc)

/-- The statement. -/
theorem proved : Rows.FnCaptureSaveKeepsImageOnceSaid :=
  over
#print axioms proved
end Go.Proofs.Qxb6616641a.fnCaptureSaveKeepsImageOnce
