import Derived.Test.Qxb6616641aSortWalks
import Derived.Test.Qxb6616641aImageWalks
set_option linter.unusedVariables false
set_option linter.unusedSimpArgs false
namespace Go.Proofs.Qxb6616641a
open Go.RowKit

/-- An order of the script. -/
structure Ord6 where
  id : Int
  sd : Int
  price : Int
  rem : Int
  stamp : Int
  saved : Int
def Ord6.zero : Ord6 := ⟨0, 0, 0, 0, 0, 0⟩
def Ord6.cells (o : Ord6) : List Value := [.int .i64 o.id, .int .u8 o.sd, .int .i64 o.price, .int .i64 o.rem, .int .i64 o.stamp, .int .u64 o.saved]
def Ord6.toRec (o : Ord6) : SRec := ⟨o.sd, keyV o.sd o.price, o.stamp, o.price, o.id, o.rem⟩

structure Cfg where
  seq : Int
  n : Int
  rd : Int
  cc : Bool
  ls : Int
  lk : Int
  lt : Int
def Cfg.must (C : Cfg) (o : Ord6) : Bool := mustB C.seq C.n C.rd C.cc C.ls C.lk C.lt o.sd o.price o.stamp o.saved
def Cfg.want (C : Cfg) (os : List Ord6) : List SRec := (os.filter C.must).map Ord6.toRec
/-- The mark of order j when the first K orders have been saved. -/
def Cfg.mark (C : Cfg) (os : List Ord6) (K j : Nat) : Int := if j < K ∧ C.must (os.getD j Ord6.zero) = true then C.n else (os.getD j Ord6.zero).saved

theorem take_snoc (os : List Ord6) (k : Nat) (hk : k < os.length) : os.take (k + 1) = os.take k ++ [os.getD k Ord6.zero] := by
  rw [List.take_add_one]
  congr 1
  simp [hk]
theorem want_yes (C : Cfg) (os : List Ord6) (k : Nat) (hk : k < os.length) (h : C.must (os.getD k Ord6.zero) = true) : C.want (os.take (k + 1)) = C.want (os.take k) ++ [(os.getD k Ord6.zero).toRec] := by
  rw [take_snoc os k hk]
  unfold Cfg.want
  rw [List.filter_append, List.map_append, List.filter_cons_of_pos h]; rfl
theorem want_no (C : Cfg) (os : List Ord6) (k : Nat) (hk : k < os.length) (h : C.must (os.getD k Ord6.zero) = false) : C.want (os.take (k + 1)) = C.want (os.take k) := by
  rw [take_snoc os k hk]
  unfold Cfg.want
  rw [List.filter_append, List.map_append, List.filter_cons_of_neg (by rw [h]; simp)]; simp
theorem want_len (C : Cfg) (os : List Ord6) (k : Nat) : (C.want (os.take k)).length ≤ k := by
  unfold Cfg.want
  rw [List.length_map]
  exact Nat.le_trans (List.length_filter_le _ _) (List.length_take_le _ _)

/-- What stands when the script's orders have been made. -/
structure Stat (C : Cfg) (os : List Ord6) (b cp : Nat) (ob lv : Nat → Nat) (base B : Nat) (x0 : World) : Prop where
  cap : CapAt x0 cp C.seq C.n (curOf C.cc b) C.ls C.lk C.lt
  book : BookAt x0 b C.rd (.slice none 0 0)
  ords : ∀ j, j < os.length → OrdAt x0 (ob j) (lv j) (os.getD j Ord6.zero).id (os.getD j Ord6.zero).sd (os.getD j Ord6.zero).price (os.getD j Ord6.zero).rem (os.getD j Ord6.zero).stamp (os.getD j Ord6.zero).saved
  hbase : x0.heap.size = base
  lb : B ≤ b
  bc : b < cp
  cpb : cp < base
  fam : ∀ j, j < os.length → cp < lv j ∧ lv j + 1 = ob j ∧ ob j < base ∧ ∀ i, i < j → ob i < lv j

def Marks (b : Nat) (ob : Nat → Nat) (N : Nat) (a : Addr) : Prop := a = ⟨b, 32, none⟩ ∨ ∃ j, j < N ∧ a = ⟨ob j, 4, none⟩

structure Sv (C : Cfg) (os : List Ord6) (b : Nat) (ob : Nat → Nat) (base B : Nat) (x0 : World) (K : Nat) (x : World) : Prop where
  keep : KeepS base B (Marks b ob os.length) x0 x
  book : ∃ v, BookAt x b C.rd v ∧ x.ownsRow base 114 6 v ((C.want (os.take K)).foldl hpush []).length (flat ((C.want (os.take K)).foldl hpush []))
  marks : ∀ j, j < os.length → x.cell? ⟨ob j, 4, none⟩ = some (.int .u64 (C.mark os K j))

theorem KeepS.mono {base lo : Nat} {A A' : Addr → Prop} {w x : World} (h : KeepS base lo A w x) (hA : ∀ a, A a → A' a) : KeepS base lo A' w x :=
  ⟨h.size, fun a ha hn => h.cell a ha (fun q => hn (hA a q)), h.frozen, h.bel⟩

section
variable {C : Cfg} {os : List Ord6} {b cp : Nat} {ob lv : Nat → Nat} {base B : Nat} {x0 x y : World} {K K' k : Nat}

theorem Sv.below (S : Stat C os b cp ob lv base B x0) (h : Sv C os b ob base B x0 K x) (hb : Below x.heap.size x y) : Sv C os b ob base B x0 K y := by
  have hs := h.keep.size
  rw [S.hbase] at hs
  have := S.bc; have := S.cpb; have := S.lb
  refine ⟨h.keep.trans (KeepS.of_below hb hs (by omega)), ?_, fun j hj => ?_⟩
  · obtain ⟨v, h1, h2⟩ := h.book
    exact ⟨v, h1.below hb (by omega), owns_below h2 hb (Nat.le_refl _)⟩
  · have := S.fam j hj
    rw [hb.cell (p := ⟨ob j, 4, none⟩) (by simp; omega)]; exact h.marks j hj

theorem Stat.inj (S : Stat C os b cp ob lv base B x0) {i j : Nat} (hi : i < os.length) (hj : j < os.length) (h : ob i = ob j) : i = j := by
  have a := S.fam i hi
  have c := S.fam j hj
  rcases Nat.lt_trichotomy i j with q | q | q
  · have := c.2.2.2 i q; omega
  · exact q
  · have := a.2.2.2 j q; omega
theorem Stat.lvob (S : Stat C os b cp ob lv base B x0) {i j : Nat} (hi : i < os.length) (hj : j < os.length) : lv i ≠ ob j := by
  have a := S.fam i hi
  have c := S.fam j hj
  rcases Nat.lt_trichotomy i j with q | q | q
  · have := c.2.2.2 i q; omega
  · subst q; omega
  · have := a.2.2.2 j q; omega

theorem Sv.cap (S : Stat C os b cp ob lv base B x0) (h : Sv C os b ob base B x0 K x) : CapAt x cp C.seq C.n (curOf C.cc b) C.ls C.lk C.lt := by
  have := S.bc
  refine S.cap.keep h.keep S.cpb (fun o => ?_)
  rintro (e | ⟨j, hj, e⟩)
  · simp at e <;> omega
  · have := S.fam j hj
    simp at e <;> omega
theorem Sv.ord (S : Stat C os b cp ob lv base B x0) (h : Sv C os b ob base B x0 K x) (hk : k < os.length) :
    OrdAt x (ob k) (lv k) (os.getD k Ord6.zero).id (os.getD k Ord6.zero).sd (os.getD k Ord6.zero).price (os.getD k Ord6.zero).rem (os.getD k Ord6.zero).stamp (C.mark os K k) := by
  have f := S.fam k hk
  have := S.bc
  refine (S.ords k hk).keep h.keep (by omega) (by omega) (fun j hj => ?_) ?_ (h.marks k hk)
  · rintro (e | ⟨i, hi, e⟩)
    · simp at e <;> omega
    · simp at e <;> omega
  · rintro (e | ⟨i, hi, e⟩)
    · simp at e
    · simp at e

theorem save_no_step (S : Stat C os b cp ob lv base B x0) (h : Sv C os b ob base B x0 K x) (hk : k < os.length) (hs : (os.getD k Ord6.zero).sd = 1 ∨ (os.getD k Ord6.zero).sd = 2)
    (hm : mustB C.seq C.n C.rd C.cc C.ls C.lk C.lt (os.getD k Ord6.zero).sd (os.getD k Ord6.zero).price (os.getD k Ord6.zero).stamp (C.mark os K k) = false) :
    Calls Try.prog 23 #[.pointer (some ⟨cp, 0, none⟩), .pointer (some ⟨b, 0, none⟩), .pointer (some ⟨ob k, 0, none⟩)] x fun e x' => e = .returned (.tuple #[]) ∧ Sv C os b ob base B x0 K x' := by
  obtain ⟨v, h1, h2⟩ := h.book
  refine (zzsave_no cp b (ob k) (lv k) _ _ _ _ _ _ _ _ _ _ _ _ _ v x (h.cap S) (h.ord S hk) h1 hs hm).mono ?_
  rintro e x' ⟨rfl, hb⟩
  exact ⟨rfl, h.below S hb⟩

theorem save_step (S : Stat C os b cp ob lv base B x0) (h : Sv C os b ob base B x0 K x) (hk : k < os.length) (hK : (K = k ∧ K' = k + 1) ∨ (K = os.length ∧ K' = os.length)) (hn : os.length ≤ 16384)
    (hs : (os.getD k Ord6.zero).sd = 1 ∨ (os.getD k Ord6.zero).sd = 2) :
    Calls Try.prog 23 #[.pointer (some ⟨cp, 0, none⟩), .pointer (some ⟨b, 0, none⟩), .pointer (some ⟨ob k, 0, none⟩)] x fun e x' => e = .returned (.tuple #[]) ∧ Sv C os b ob base B x0 K' x' := by
  rcases hK with ⟨rfl, rfl⟩ | ⟨rfl, rfl⟩
  · have hmk : C.mark os K K = (os.getD K Ord6.zero).saved := by unfold Cfg.mark; rw [if_neg (by omega)]
    cases hm : C.must (os.getD K Ord6.zero) with
    | false =>
      refine (save_no_step S h hk hs (by rw [hmk]; exact hm)).mono ?_
      rintro e x' ⟨rfl, h'⟩
      refine ⟨rfl, h'.keep, ?_, fun j hj => ?_⟩
      · rw [want_no C os K hk hm]; exact h'.book
      · rw [h'.marks j hj]
        unfold Cfg.mark
        by_cases hj : j = K
        · subst hj
          rw [if_neg (by omega), if_neg (by rw [hm]; simp)]
        · have e : (j < K + 1) = (j < K) := by apply propext; omega
          simp only [e]
    | true =>
      obtain ⟨v, h1, h2⟩ := h.book
      have f := S.fam K hk
      have hsz := h.keep.size
      rw [S.hbase] at hsz
      have c1 := S.bc; have c2 := S.cpb; have c3 := S.lb
      have hl : ((C.want (os.take K)).foldl hpush []).length ≤ 1048576 := by
        have := (foldl_hpush (C.want (os.take K)) []).length_eq
        have := want_len C os K
        simp at *; omega
      have hO := h.ord S hk
      rw [hmk] at hO
      refine (zzsave_yes cp b (ob K) (lv K) base B _ _ _ _ _ _ _ _ _ _ _ _ _ v _ (Two b (ob K)) x (h.cap S) hO h1 hs hm h2 hl (by omega) (by omega) (by omega) (by omega) (by omega) (by omega) (Or.inl rfl) (Or.inr rfl)).mono ?_
      rintro e x' ⟨rfl, v', hv', hown', hq', hk'⟩
      refine ⟨rfl, h.keep.trans (hk'.mono ?_), ⟨v', ?_, ?_⟩, fun j hj => ?_⟩
      · rintro a (e | e)
        · exact .inl e
        · exact .inr ⟨K, hk, e⟩
      · refine h1.keep hk' (by omega) (fun j hj => ?_) hv'
        rintro (e | e)
        · simp at e <;> omega
        · simp at e <;> omega
      · rw [want_yes C os K hk hm, List.foldl_append]
        have e : (hpush ((C.want (os.take K)).foldl hpush []) (os.getD K Ord6.zero).toRec).length = ((C.want (os.take K)).foldl hpush []).length + 1 := by
          have := (hpush_perm ((C.want (os.take K)).foldl hpush []) (os.getD K Ord6.zero).toRec).length_eq
          rw [this]; simp
        simp only [List.foldl_cons, List.foldl_nil]
        rw [e]
        exact hown'
      · by_cases hjk : j = K
        · subst hjk
          rw [hq']
          unfold Cfg.mark
          rw [if_pos ⟨by omega, hm⟩]
        · have fj := S.fam j hj
          rw [hk'.cell ⟨ob j, 4, none⟩ (by simp; omega) ?_, h.marks j hj]
          · unfold Cfg.mark
            have e : (j < K + 1) = (j < K) := by apply propext; omega
            simp only [e]
          · rintro (e | e)
            · simp at e
            · simp at e; exact hjk (S.inj hj hk e)
  · refine save_no_step S h hk hs ?_
    unfold Cfg.mark
    by_cases hm : C.must (os.getD k Ord6.zero) = true
    · rw [if_pos ⟨hk, hm⟩]; exact mustB_marked _ _ _ _ _ _ _ _ _ _
    · rw [if_neg (fun q => hm q.2)]; simpa [Cfg.must] using hm
end
end Go.Proofs.Qxb6616641a
