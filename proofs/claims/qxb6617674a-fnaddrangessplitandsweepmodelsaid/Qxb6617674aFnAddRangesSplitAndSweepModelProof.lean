import Derived.Test.Qxb6617674aRangeWalks
import Derived.ProofKit
import Derived.OpenShut
import Derived.ShutString
import Derived.ChangeOld
import Derived.Below
namespace Go.Proofs.Qxb6617674a.fnAddRangesSplitAndSweepModel
open Go.ChangeShapes Go.WideShapes Go.ChangeAt Go.RowKit
open Go.ChangeMaps (open_string shut_string)
set_option linter.unusedVariables false

theorem own : ownKnob Try.prog.godebug = none := by kernel_rfl
theorem laidOut : laidOutB Try.prog = true := by kernel_rfl
theorem cells22 : Try.prog.cellsOf 22 = 256 := by kernel_rfl

theorem okWide_array {P : Program} {w : World} {r : Reach} {base : Nat} {t e : TypeId} {n : Nat} {v : Value} (ht : P.underlying t = some (.array n e)) (h : Value.okWide P w r base t v) : ∃ cs, v = .agg cs ∧ cs.size = P.cellsOf t := by
  simp only [Value.okWide, ht] at h
  obtain ⟨cs, h1, h2, _⟩ := h
  exact ⟨cs, h1, h2⟩

/-- 256 bools, read. -/
theorem set_trod {H : Type} {enc : TypeId × Value → H} {w : World} {base : Nat} {spare : Nat → Bool} {held : Bool} {fuel : Nat} {cs : List Value} {x : DataW H × List MemPlace}
    (h : DataW.trod enc Try.prog w base spare held fuel 22 cs = some x) : ∃ f : Nat → Bool, cs.toArray = bs f := by
  obtain ⟨xs, m, _, _, hl, hlen, hf⟩ := DataW.trod_array Try.underlying22 h
  rw [cells22] at hl
  have hb : ∀ i, i < 256 → ∃ b, cs[i]? = some (.bool b) := by
    intro i hi
    have h1 := hf i hi
    rw [cells4, Nat.mul_one, List.getElem?_eq_getElem (by omega)] at h1
    obtain ⟨b, hb, _⟩ := DataW.trod_bool Try.underlying4 h1
    refine ⟨b, ?_⟩
    have h2 : ((cs.drop i).take 1)[0]? = some (.bool b) := by rw [hb]; rfl
    rw [List.getElem?_take] at h2
    simpa using h2
  refine ⟨fun i => match cs[i]? with | some (.bool b) => b | _ => false, ?_⟩
  apply Array.ext_getElem?
  intro i
  by_cases hi : i < 256
  · obtain ⟨b, hb⟩ := hb i hi
    rw [bs_get _ i hi]
    simp [hb]
  · rw [Array.getElem?_eq_none (by simp; omega), Array.getElem?_eq_none (by rw [bs_size]; omega)]

set_option maxRecDepth 100000 in
theorem lifted (os : Os) (started : os.Started) (H : Type) (enc : TypeId × Value → H) :
    ReturnsInHanded {} Try.checked os 3 .any (Rows.fnAddRangesSplitAndSweepModelSpec.pre6 enc Try.prog Try.f3 Rows.fnAddRangesSplitAndSweepModelRow.domain false) (Rows.fnAddRangesSplitAndSweepModelSpec.post enc Try.prog Try.f3 false true false false) := by
  refine returnsInHanded_of_change (C := Try.checked) own started (by kernel_rfl) Try.func3
    (ChangeSpec.witness6 (enc := enc) (C := Try.checked) false ⟨#[], #[.agg (bs fun _ => false), .string ByteArray.empty, .string ByteArray.empty], []⟩ 8 (by kernel_rfl) (by kernel_rfl) (by kernel_rfl) (by kernel_rfl)) ?_
  intro W base args ds gs before hval0 hW hcnd _
  have hval : ∀ (j : Nat) t v, Try.f3.params[j]? = some t → args[j]? = some v → Value.okWide Try.prog W .any base t v := hval0
  have hW' := hW
  obtain ⟨p, q, hA0, hV, rfl, hfz, hnd⟩ := hW
  have hA : DataW.TrodAll enc Try.prog W 0 (fun _ => true) true Try.f3.params.toList args.toList ds p := hA0
  rw [Try.params3] at hA hval
  obtain ⟨v0, vs0, d0, ds0, p0, q0, hargs, rfl, rfl, h0, r0⟩ := trodAll_cons hA
  obtain ⟨v1, vs1, d1, ds1, p1, q1, rfl, rfl, rfl, h1, r1⟩ := trodAll_cons r0
  obtain ⟨v2, vs2, d2, ds2, p2, q2, rfl, rfl, rfl, h2, r2⟩ := trodAll_cons r1
  obtain ⟨rfl, rfl, rfl⟩ := trodAll_nil r2
  obtain rfl : args = #[v0, v1, v2] := by cases args; simp_all
  obtain ⟨rfl, rfl⟩ := trodVars_none hV
  have k0 := h0
  have lt0 : ∀ x ∈ p0, x.block < W.heap.size := by obtain ⟨m, hm⟩ := k0; exact DataW.trod_lt m _ _ _ hm
  obtain ⟨c0, rfl, _⟩ := okWide_array Try.underlying22 (hval 0 22 v0 rfl rfl)
  obtain ⟨f, rfl⟩ : ∃ f : Nat → Bool, c0 = bs f := by
    obtain ⟨m, hm⟩ := h0
    obtain ⟨f, e⟩ := set_trod hm
    exact ⟨f, by simpa [Value.cells] using e⟩
  obtain ⟨a1, rfl, rfl, rfl, w1⟩ := open_string Try.underlying9 (hval 1 9 v1 rfl rfl) h1
  obtain ⟨a2, rfl, rfl, rfl, w2⟩ := open_string Try.underlying9 (hval 2 9 v2 rfl rfl) h2
  clear hA0 hval0
  refine (ranges_all f a1 a2 W).mono fun e W' ⟨he, bel⟩ => ?_
  subst he
  exact ⟨_, rfl, _, _, _, [], _, [], hW', trodAll_mk1 (shut_bool Try.underlying4 _), (trodAll_cons_mk (Below.trod laidOut (by kernel_rfl) (of_decide_eq_true (by kernel_rfl)) k0 bel lt0) (trodAll_cons_mk (shut_string Try.underlying9 w1) (trodAll_cons_mk (shut_string Try.underlying9 w2) trodAll_mk0))), rfl, bel.frame _, fun h => by cases h⟩

theorem over : Rows.fnAddRangesSplitAndSweepModelRow.holds Try.pinned (OpenSpec.ofChange Rows.fnAddRangesSplitAndSweepModelSpec) :=
  OpenClaim.holds_of_wide 3 Try.f3 rfl rfl rfl rfl rfl rfl rfl ⟨rfl, rfl, rfl, rfl, rfl⟩ rfl rfl rfl rfl rfl (by kernel_rfl) Try.func3 (by kernel_rfl)
    (of_decide_eq_true (by kernel_rfl)) (by unfold Func.isWrapper; first | (rw [if_pos (by decide +kernel)]; kernel_rfl) | (rw [if_neg (by decide +kernel)]; exact ⟨rfl, rfl⟩))
    (fun os started H enc _ => lifted os started H enc)

/-- The statement. -/
theorem proved : Rows.FnAddRangesSplitAndSweepModelSaid :=
  over
#print axioms proved
end Go.Proofs.Qxb6617674a.fnAddRangesSplitAndSweepModel
