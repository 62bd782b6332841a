import Derived.Test.Qxb6616641aLawWalk
import Derived.Test.Qxb6616641aFnCaptureSaveKeepsImageOnceProof
import Derived.Deep.Slices
import Derived.ProofKit
import Derived.OpenShut
import Derived.ShutString
import Derived.ChangeOld
import Derived.Below
set_option linter.unusedVariables false
namespace Go.Proofs.Qxb6616641a.fnCaptureSaveScriptKeepsHeap
open Go.ChangeShapes Go.WideShapes Go.ChangeAt Go.RowKit Go.Deep
open Go.Proofs.Qxb6616641a.fnCaptureSaveKeepsImageOnce (order_trod pos_trod i64_of_wf cells39)

theorem cells_at {w : World} {base : Nat} {a : Addr} {o : Ord6} (h : w.cells? base a 6 = some o.cells) (j : Nat) (hj : j < 6) : w.cell? (a.add j) = o.cells[j]? := by
  exact (World.cells?_some h).2.2 j hj

section
variable {H : Type} {enc : TypeId × Value → H} {w : World} {base : Nat} {spare : Nat → Bool} {held : Bool} {fuel : Nat} {x : DataW H × List MemPlace}

/-- A script, read: its orders, cell by cell. -/
theorem script_trod {sp : Option Addr} {len cap : Nat} (h : DataW.trod enc Try.prog w base spare held fuel 51 [.slice sp len cap] = some x) :
    ∃ (os : List Ord6) (gs off : Nat), os.length = len ∧ (0 < len → sp = some ⟨gs, off, none⟩) ∧ InAt os gs off w ∧ (∀ i, i < len → I64 (os.getD i Ord6.zero).price ∧ I64 (os.getD i Ord6.zero).stamp) := by
  rcases open_slice Try.underlying51 h with ⟨hcs, _⟩ | ⟨a, len', cap', m, n, D, Pl, hcs, _, hl, hm, hmm, _, hx⟩
  · simp at hcs
    obtain ⟨rfl, rfl, rfl⟩ := hcs
    exact ⟨[], 0, 0, rfl, fun h => by omega, ⟨fun i hi => by simp at hi⟩, fun i hi => by omega⟩
  · simp at hcs
    obtain ⟨rfl, rfl, rfl⟩ := hcs
    have hlm : len ≤ m := by rw [hmm]; split <;> omega
    rw [cells39] at hx
    have hch : ∀ i, ∃ o : Ord6, i < len → (∀ j, j < 6 → w.cell? ((a.add (i * 6)).add j) = o.cells[j]?) ∧ I64 o.price ∧ I64 o.stamp := by
      intro i
      by_cases hi : i < len
      · obtain ⟨cs', h1, h2⟩ := hx i (by omega)
        obtain ⟨id, sd, price, rem, stamp, saved, e, g1, g2⟩ := order_trod h2
        subst e
        exact ⟨⟨id, sd, price, rem, stamp, saved⟩, fun _ => ⟨fun j hj => cells_at (o := ⟨id, sd, price, rem, stamp, saved⟩) h1 j hj, g1, g2⟩⟩
      · exact ⟨Ord6.zero, fun q => absurd q hi⟩
    obtain ⟨f, hf⟩ := Classical.axiomOfChoice hch
    have hg : ∀ i, i < len → ((List.range len).map f).getD i Ord6.zero = f i := fun i hi => by simp [hi]
    have hsp : 0 < len → a.spot = none := by
      intro h0
      have := (hf 0 h0).1 0 (by omega)
      rw [Nat.zero_mul, Go.Addr.add_zero', Go.Addr.add_zero'] at this
      have hs : w.cell? a = some (.int .i64 (f 0).id) := this
      unfold World.cell? at hs
      cases hspot : a.spot with
      | none => rfl
      | some k =>
        rw [hspot] at hs
        split at hs <;> simp at hs
    refine ⟨(List.range len).map f, a.block, a.off, by simp, fun h0 => ?_, ⟨fun i hi j hj => ?_⟩, fun i hi => ?_⟩
    · have := hsp h0
      cases a; simp at this; subst this; rfl
    · have hi' : i < len := by simpa using hi
      rw [hg i hi', ← (hf i hi').1 j hj, Go.Addr.add_add]
      have := hsp (by omega)
      cases a; simp at this; subst this
      rw [Go.Addr.add_lit, Nat.add_assoc]
    · rw [hg i hi]; exact (hf i hi).2
end

theorem own : ownKnob Try.prog.godebug = none := by kernel_rfl
theorem laidOut : laidOutB Try.prog = true := by kernel_rfl

theorem walk (C : Cfg) (os : List Ord6) (sp : Option Addr) (N cap gs off : Nat) (w : World) (hN : os.length = N) (hsp : 0 < N → sp = some ⟨gs, off, none⟩) (hin : InAt os gs off w)
    (hi64 : ∀ i, i < N → I64 (os.getD i Ord6.zero).price ∧ I64 (os.getD i Ord6.zero).stamp) (hlk : I64 C.lk) (hlt : I64 C.lt) :
    Calls Try.prog 9 #[.int .i64 C.seq, .int .u64 C.n, .int .u64 C.rd, .bool C.cc, .agg #[.int .u8 C.ls, .int .i64 C.lk, .int .i64 C.lt], .slice sp N cap] w fun e w' => e = .returned (.bool true) ∧ Below w.heap.size w w' := by
  by_cases h : N ≤ 16384
  · rcases sides os with hok | ⟨m, hm, h1, h2⟩
    · rw [hN] at hok
      exact law5_main C os sp N cap gs off w hN h hsp hin hok hi64 hlk hlt
    · rw [hN] at hm
      exact law5_side os _ _ _ _ _ _ _ sp N cap gs off m w hN h (hsp (by omega)) hin hm h1 h2
  · exact law5_long _ _ _ _ _ _ _ sp N cap w h

set_option maxRecDepth 100000 in
theorem lifted (os : Os) (started : os.Started) (H : Type) (enc : TypeId × Value → H) :
    ReturnsInHanded {} Try.checked os 9 .any (Rows.fnCaptureSaveScriptKeepsHeapSpec.pre6 enc Try.prog Try.f9 Rows.fnCaptureSaveScriptKeepsHeapRow.domain false) (Rows.fnCaptureSaveScriptKeepsHeapSpec.post enc Try.prog Try.f9 false true false false) := by
  refine returnsInHanded_of_change (C := Try.checked) own started (by kernel_rfl) Try.func9
    (ChangeSpec.witness6 (enc := enc) (C := Try.checked) false ⟨#[], #[.int .i64 0, .int .u64 0, .int .u64 0, .bool false, .agg #[.int .u8 0, .int .i64 0, .int .i64 0], .slice none 0 0], []⟩ 8 (by kernel_rfl) (by kernel_rfl) (by kernel_rfl) (by kernel_rfl)) ?_
  intro W base args ds gs before hval0 hW hcnd _
  have hval : ∀ (j : Nat) t v, Try.f9.params[j]? = some t → args[j]? = some v → Value.okWide Try.prog W .any base t v := hval0
  have hW' := hW
  obtain ⟨p, q, hA0, hV, rfl, hfz, hnd⟩ := hW
  have hA : DataW.TrodAll enc Try.prog W 0 (fun _ => true) true Try.f9.params.toList args.toList ds p := hA0
  rw [Try.params9] at hA hval
  obtain ⟨v0, vs0, d0, ds0, p0, q0, hargs, rfl, rfl, h0, r0⟩ := trodAll_cons hA
  obtain ⟨v1, vs1, d1, ds1, p1, q1, rfl, rfl, rfl, h1, r1⟩ := trodAll_cons r0
  obtain ⟨v2, vs2, d2, ds2, p2, q2, rfl, rfl, rfl, h2, r2⟩ := trodAll_cons r1
  obtain ⟨v3, vs3, d3, ds3, p3, q3, rfl, rfl, rfl, h3, r3⟩ := trodAll_cons r2
  obtain ⟨v4, vs4, d4, ds4, p4, q4, rfl, rfl, rfl, h4, r4⟩ := trodAll_cons r3
  obtain ⟨v5, vs5, d5, ds5, p5, q5, rfl, rfl, rfl, h5, r5⟩ := trodAll_cons r4
  obtain ⟨rfl, rfl, rfl⟩ := trodAll_nil r5
  obtain rfl : args = #[v0, v1, v2, v3, v4, v5] := by cases args; simp_all
  obtain ⟨rfl, rfl⟩ := trodVars_none hV
  obtain ⟨a0, rfl, rfl, rfl, w0⟩ := open_int Try.underlying2 (hval 0 2 v0 rfl rfl) h0
  obtain ⟨a1, rfl, rfl, rfl, w1⟩ := open_int Try.underlying25 (hval 1 25 v1 rfl rfl) h1
  obtain ⟨a2, rfl, rfl, rfl, w2⟩ := open_int Try.underlying25 (hval 2 25 v2 rfl rfl) h2
  obtain ⟨a3, rfl, rfl, rfl⟩ := open_bool Try.underlying4 (hval 3 4 v3 rfl rfl) h3
  have k4 := h4
  have k5 := h5
  have lt4 : ∀ x ∈ p4, x.block < W.heap.size := by obtain ⟨m, hm⟩ := k4; exact DataW.trod_lt m _ _ _ hm
  have lt5 : ∀ x ∈ p5, x.block < W.heap.size := by obtain ⟨m, hm⟩ := k5; exact DataW.trod_lt m _ _ _ hm
  obtain ⟨c4, rfl, _⟩ := okWide_struct Try.underlying37 (hval 4 37 v4 rfl rfl)
  obtain ⟨sp, len, cap, rfl⟩ := okWide_slice Try.underlying51 (hval 5 51 v5 rfl rfl)
  obtain ⟨ls, lk, lt, rfl, hlk, hlt⟩ : ∃ ls lk lt : Int, c4 = #[.int .u8 ls, .int .i64 lk, .int .i64 lt] ∧ I64 lk ∧ I64 lt := by
    obtain ⟨m, hm⟩ := h4
    obtain ⟨ls, lk, lt, e, g1, g2⟩ := pos_trod hm
    obtain ⟨l⟩ := c4
    simp [Value.cells] at e
    subst e
    exact ⟨ls, lk, lt, rfl, g1, g2⟩
  obtain ⟨ord, gb, off, hlen, hsp, hin, hi64⟩ : ∃ (os : List Ord6) (gs off : Nat), os.length = len ∧ (0 < len → sp = some ⟨gs, off, none⟩) ∧ InAt os gs off W ∧ (∀ i, i < len → I64 (os.getD i Ord6.zero).price ∧ I64 (os.getD i Ord6.zero).stamp) := by
    obtain ⟨m, hm⟩ := h5
    exact script_trod hm
  clear hA0 hval0
  refine (walk ⟨a0, a1, a2, a3, ls, lk, lt⟩ ord sp len cap gb off W hlen hsp hin hi64 hlk hlt).mono fun e W' ⟨he, bel⟩ => ?_
  subst he
  exact ⟨_, rfl, _, _, _, [], _, [], hW', trodAll_mk1 (shut_bool Try.underlying4 _), (trodAll_cons_mk (shut_int Try.underlying2 w0) (trodAll_cons_mk (shut_int Try.underlying25 w1) (trodAll_cons_mk (shut_int Try.underlying25 w2) (trodAll_cons_mk (shut_bool Try.underlying4 _) (trodAll_cons_mk (Below.trod laidOut (by kernel_rfl) (of_decide_eq_true (by kernel_rfl)) k4 bel lt4) (trodAll_cons_mk (Below.trod laidOut (by kernel_rfl) (of_decide_eq_true (by kernel_rfl)) k5 bel lt5) trodAll_mk0)))))), rfl, bel.frame _, fun h => by cases h⟩

theorem over : Rows.fnCaptureSaveScriptKeepsHeapRow.holds Try.pinned (OpenSpec.ofChange Rows.fnCaptureSaveScriptKeepsHeapSpec) :=
  OpenClaim.holds_of_wide 9 Try.f9 rfl rfl rfl rfl rfl rfl rfl ⟨rfl, rfl, rfl, rfl, rfl⟩ rfl rfl rfl rfl rfl (by kernel_rfl) Try.func9 (by kernel_rfl)
    (of_decide_eq_true (by kernel_rfl)) (by unfold Func.isWrapper; first | (rw [if_pos (by decide +kernel)]; kernel_rfl) | (rw [if_neg (by decide +kernel)]; exact ⟨rfl, rfl⟩))
    (fun os started H enc _ => lifted os started H enc)

/-- The statement. -/
theorem proved : Rows.FnCaptureSaveScriptKeepsHeapSaid :=
  over
#print axioms proved
end Go.Proofs.Qxb6616641a.fnCaptureSaveScriptKeepsHeap
