/-
  Lists of elements: which are below the order; of bytes and to bytes; the reference's lists (written by genvc.py).
-/
import Derived.Test.YtgdfdkpkhjbibaaDoorFp7
import Derived.Test.YtgdfdkpkhjbibaaDoorHF
namespace Go.Proofs.YtgdfdkpkhjbibaaDoor
open Go.RowKit
theorem szE : ∀ x, (fpC x).size = 2 := fun _ => rfl
theorem szWA : ∀ x, (wA x).size = 2 := fun _ => rfl
theorem szBy : ∀ x, (byA 16 x).size = 16 := fun x => byA_size _ x
theorem oneE (l : List Nat) : (flat fpC l).all (·.oneCell') = true := flat_one (fun x => rawC_one (mont x)) l
/-- The first k places by f, the others as they were. -/
def stM (f : Nat → Nat) (l : List Nat) (k : Nat) : List Nat := (List.range l.length).map fun i => if i < k then f i else l.getD i 0
theorem stM_len (f : Nat → Nat) (l : List Nat) (k : Nat) : (stM f l k).length = l.length := by simp [stM]
theorem mapR_get (f : Nat → Nat) {n i : Nat} (h : i < n) : ((List.range n).map f).getD i 0 = f i := by simp [List.getD, h]
theorem stM_get (f : Nat → Nat) (l : List Nat) (k : Nat) {i : Nat} (h : i < l.length) : (stM f l k).getD i 0 = if i < k then f i else l.getD i 0 := mapR_get _ h
theorem stM_set (f : Nat → Nat) {l : List Nat} {k : Nat} (h : k < l.length) {r : Nat} (hr : r = f k) : (stM f l k).set k r = stM f l (k + 1) := by
  subst hr
  apply List.ext_getElem?
  intro i
  unfold stM
  rw [List.getElem?_set]
  by_cases e : k = i
  · subst e; simp [h]
  · rw [if_neg e, List.getElem?_map, List.getElem?_map]
    cases hr : (List.range l.length)[i]? with
    | none => rfl
    | some j =>
      have : j = i := by
        have := List.getElem?_eq_some_iff.1 hr
        simpa using this.2.symm
      subst this
      simp only [Option.map_some, Option.some.injEq]
      by_cases h1 : j < k
      · rw [if_pos h1, if_pos (by omega)]
      · rw [if_neg h1, if_neg (by omega)]
theorem mapR_self (l : List Nat) : (List.range l.length).map (fun i => l.getD i 0) = l := by
  apply List.ext_getElem?
  intro i
  by_cases h : i < l.length
  · simp [h, List.getD]
  · simp [h]
theorem stM_zero (f : Nat → Nat) (l : List Nat) : stM f l 0 = l := by
  unfold stM; simp only [Nat.not_lt_zero, if_false]; exact mapR_self l
theorem stM_end (f : Nat → Nat) (l : List Nat) {k : Nat} (h : l.length ≤ k) : stM f l k = (List.range l.length).map f := by
  unfold stM
  exact List.map_congr_left fun i hi => if_pos (by have := List.mem_range.1 hi; omega)
theorem rep_get (n i : Nat) : (List.replicate n 0).getD i 0 = 0 := by simp [List.getD, List.getElem?_replicate]; split <;> rfl
/-- All are below the order. -/
def AllLt (l : List Nat) : Prop := ∀ i, i < l.length → l.getD i 0 < pf
theorem allLt_of {l : List Nat} (h : l.all (fun x => decide (x < pf)) = true) : AllLt l := fun i hi => by
  have := List.all_eq_true.1 h (l.getD i 0) (by simp [List.getD, hi])
  simpa using this
theorem of_allLt {l : List Nat} (h : AllLt l) : l.all (fun x => decide (x < pf)) = true := by
  rw [List.all_eq_true]
  intro x hx
  obtain ⟨i, hi, rfl⟩ := List.getElem_of_mem hx
  have := h i hi
  simp only [decide_eq_true_eq]
  simpa [List.getD, hi] using this
theorem AllLt.any {l : List Nat} (h : AllLt l) (i : Nat) : l.getD i 0 < pf := by
  by_cases hi : i < l.length
  · exact h i hi
  · simp [List.getD, hi, pf_pos]
theorem allLt_mapR {f : Nat → Nat} {n : Nat} (h : ∀ i, i < n → f i < pf) : AllLt ((List.range n).map f) := fun i hi => by
  have hi' : i < n := by simpa using hi
  rw [mapR_get f hi']; exact h i hi'
theorem allLt_rep (n : Nat) : AllLt (List.replicate n 0) := fun i _ => by rw [rep_get]; exact pf_pos
theorem allLt_st {f : Nat → Nat} {l : List Nat} (hf : ∀ i, i < l.length → f i < pf) (hl : AllLt l) (k : Nat) : AllLt (stM f l k) := allLt_mapR fun i hi => by
  split
  · exact hf i hi
  · exact hl i hi
theorem els_put {l : List Nat} {i : Nat} (hi : i < l.length) (r : Nat) : putC (flat fpC l) (i * 2) r = flat fpC (l.set i r) := by
  apply Array.ext_getElem?
  intro m
  by_cases hm : m < (flat fpC l).size
  · rw [flat_set szE hi r m hm]
    have hs := flat_size szE l
    have h1 : i * 2 + 2 ≤ l.length * 2 := by have := Nat.mul_le_mul_right 2 (show i + 1 ≤ l.length from hi); omega
    show (putR (flat fpC l) (i * 2) (mont r))[m]? = _
    unfold putR
    by_cases e : i * 2 = m
    · subst e
      rw [if_pos ⟨by omega, by show i * 2 < i * 2 + 2; omega⟩, Array.getElem?_setIfInBounds, Array.getElem?_setIfInBounds, if_neg (by omega), if_pos rfl, if_pos hm, Nat.sub_self]; rfl
    · by_cases e' : i * 2 + 1 = m
      · subst e'
        rw [if_pos ⟨by omega, by show i * 2 + 1 < i * 2 + 2; omega⟩, Array.getElem?_setIfInBounds, if_pos rfl, Array.size_setIfInBounds, if_pos hm, show i * 2 + 1 - i * 2 = 1 by omega]; rfl
      · rw [if_neg (by show ¬ (i * 2 ≤ m ∧ m < i * 2 + 2); omega), Array.getElem?_setIfInBounds, Array.getElem?_setIfInBounds, if_neg e', if_neg e]
  · rw [Array.getElem?_eq_none (by rw [putR_size]; omega), Array.getElem?_eq_none (by rw [flat_size szE, List.length_set, ← flat_size szE]; omega)]
section
variable {D : Nat → Bool} {w0 w : World} {η : List (Nat × Obj)}
theorem els_at {b T : Nat} {l : List Nat} {fr : Nat × Nat} (h : w.heap[b]? = some (.cells (flat fpC l) T fr)) {i : Nat} (hi : i < l.length) : FpAt w b (i * 2) (l.getD i 0) := fun j v hj => by
  have hj2 : j < (fpC (l.getD i 0)).size := (Array.getElem?_eq_some_iff.1 hj).1
  rw [cell_of_row w b _ _ T fr h, flat_get szE hi j hj2]; exact hj
theorem sl_at {ad : Option Addr} {b o : Nat} {l : List Nat} (h : SlA fpC 2 w ad b o l) {i : Nat} (hi : i < l.length) : FpAt w b (o + i * 2) (l.getD i 0) := fun j v hj => by
  have hj2 : j < (fpC (l.getD i 0)).size := (Array.getElem?_eq_some_iff.1 hj).1
  rw [h.cell i hi j hj2]; exact hj
theorem locE (k : Nat) {b T i : Nat} {l : List Nat} (h : η[k]? = some (b, .cells (flat fpC l) T (0, 0))) (hi : i < l.length) : LocF D w0 η b (i * 2) (l.getD i 0) := fun _ hw => els_at (hw.at h) hi
theorem locS {ad : Option Addr} {b o : Nat} {l : List Nat} (hs : SlA fpC 2 w0 ad b o l) (hD : D b = false) {i : Nat} (hi : i < l.length) : LocF D w0 η b (o + i * 2) (l.getD i 0) := fun _ hw => RawAt.sn (sl_at hs hi) hw.sn hD
theorem dstE (k : Nat) {b T i : Nat} {l : List Nat} (h : η[k]? = some (b, .cells (flat fpC l) T (0, 0))) (hi : i < l.length) (hD : w0.heap.size ≤ b ∨ D b = true) : DstF D w0 η b (i * 2) (fun r => η.set k (b, .cells (flat fpC (l.set i r)) T (0, 0))) :=
  ⟨k, flat fpC l, T, h, by rw [flat_size szE]; have := Nat.mul_le_mul_right 2 (show i + 1 ≤ l.length from hi); show i * 2 + 2 ≤ l.length * 2; omega, hD, fun r => by rw [els_put hi]⟩
end
theorem SlA.row {f : Nat → Array Value} {k : Nat} (hf : ∀ x, (f x).size = k) {w : World} {ad : Option Addr} {b o : Nat} {l : List Nat} (h : SlA f k w ad b o l) {i : Nat} (hi : i < l.length) : ∀ j, j < (f (l.getD i 0)).size → w.cell? ⟨b, o + i * k + j, none⟩ = (f (l.getD i 0))[j]? := fun j hj => h.cell i hi j (by rwa [hf] at hj)
theorem SlA.cut {f : Nat → Array Value} {k : Nat} {w : World} {ad : Option Addr} {b o : Nat} {l : List Nat} (h : SlA f k w ad b o l) (m : Nat) : SlA f k w ad b o (l.take m) :=
  ⟨fun hn => h.some (fun e => hn (by rw [e]; simp)), fun i hi j hj => by
    have hi2 : i < l.length := by simp only [List.length_take] at hi; omega
    have hi3 : i < m := by simp only [List.length_take] at hi; omega
    rw [h.cell i hi2 j hj]
    simp [List.getD, hi3]⟩
/-- The reference's words in a block that may be longer. -/
def PreW (cs : Array Value) (l : List Nat) : Prop := ∀ i, i < l.length → ∀ j, j < 2 → cs[i * 2 + j]? = (wA (l.getD i 0))[j]?
theorem PreW.sl {w : World} {b T : Nat} {cs : Array Value} {fr : Nat × Nat} {l : List Nat} (hp : PreW cs l) (h : w.heap[b]? = some (.cells cs T fr)) : SlA wA 2 w (some ⟨b, 0, none⟩) b 0 l :=
  ⟨fun _ => rfl, fun i hi j hj => by rw [Nat.zero_add, cell_of_row w b _ cs T fr h]; exact hp i hi j hj⟩
theorem preW_flat (l : List Nat) : PreW (flat wA l) l := fun _ hi j hj => flat_get szWA hi j hj
theorem preW_nil : PreW #[] [] := fun i hi => absurd hi (by simp)
theorem PreW.app {cs cs' : Array Value} {l : List Nat} {x : Nat} (h : PreW cs l) (h1 : ∀ j, j < l.length * 2 → cs'[j]? = cs[j]?) (h2 : ∀ j, j < 1 * 2 → cs'[l.length * 2 + j]? = (wA x)[j]?) : PreW cs' (l ++ [x]) := fun i hi j hj => by
  simp only [List.length_append, List.length_cons, List.length_nil] at hi
  by_cases e : i < l.length
  · rw [h1 _ (by omega), h i e j hj]; simp [List.getD, List.getElem?_append_left e]
  · obtain rfl : i = l.length := by omega
    rw [h2 j (by omega)]; simp [List.getD]
theorem take_snoc {l : List Nat} {k : Nat} (h : k < l.length) : l.take k ++ [l.getD k 0] = l.take (k + 1) := by
  rw [List.take_add_one]; simp [List.getD, h]
/-- A list whose elements are few and below the order. -/
def Few (l : List Nat) : Prop := l.length ≤ 64 ∧ l.all (fun x => decide (x < pf)) = true
instance (l : List Nat) : Decidable (Few l) := inferInstanceAs (Decidable (_ ∧ _))

set_option maxRecDepth 100000 in
theorem hasA_any {l : List Nat} {ad : Option Addr} {b o c : Nat} {w : World} (hs : SlA (byA 16) 16 w ad b o l) (hB : ∀ k, k < l.length → l.getD k 0 < 256 ^ 16) (hl : l.length < 4611686018427387904) :
    Calls Tryd.prog 25 #[.slice ad l.length c] w fun e w' => e = .returned (.bool (l.all fun x => decide (x < pf))) ∧ Below w.heap.size w w' := by
  refine calls_H (args := [.slice ad l.length c]) (noD) [] Tryd.func25 rfl (m := 17) rfl rfl (hold_nil _ _) ?_
  refine HC.seq ?_
  refine HC.region ?_
  refine HL.val (Val.assign rfl) (by decide) ?_
  refine HL.nil ?_
  refine HQ.next ?_
  refine HC.seq ?_
  refine HC.seq ?_
  refine HC.region ?_
  refine HL.val (Val.move rfl) (by decide) ?_
  refine HL.val (Val.lenS rfl rfl Tryd.underlying47) (by decide) ?_
  refine HL.val (Val.move rfl) (by decide) ?_
  refine HL.nil ?_
  refine HQ.next ?_
  refine HC.block ?_
  refine HC.loop (ι := {p : Nat // p ≤ l.length ∧ (l.take p).all (fun x => decide (x < pf)) = true}) (fun p => l.length - p.1) (fun p => [(7, .int .i64 (p.1 : Int)), (6, .int .i64 (l.length : Int)), (5, .slice ad l.length c)]) (fun p => []) ⟨0, Nat.zero_le _, rfl⟩ (fun ac wc ha hw => ⟨ha.subS ⟨rfl, rfl, rfl, trivial⟩, hw.pick [] (by simp)⟩) ?_
  rintro ⟨k, hk, hp⟩
  dsimp only
  refine HC.seq ?_
  refine HC.region ?_
  by_cases hkl : k < l.length
  · refine HL.val ((Val.lss rfl rfl).as (congrArg Value.bool ((lssN k l.length).trans (decide_eq_true hkl)))) (by decide) ?_
    refine HL.nil ?_
    refine HQ.next ?_
    refine HC.seq ?_
    refine HC.yes rfl ?_
    refine HC.skip ?_
    refine HQ.next ?_
    refine HC.seq ?_
    refine HC.block ?_
    refine HC.seq ?_
    refine HC.region ?_
    refine HL.val (Val.ixSliceA (s := 16) (i := k) (o + k * 16) rfl (hs.at hkl) rfl Tryd.underlying47 (by kernel_rfl) hkl rfl) (by decide) ?_
    refine HL.val (Val.load_cells (byA 16 (l.getD k 0)) rfl (fun w hw => (hs.sn szBy hw.sn rfl).row szBy hkl) Tryd.underlying30 rfl (by kernel_rfl)) (by decide) ?_
    refine HL.new (New.alloc al30) (by decide) ?_
    intro b1 hb1
    refine HL.put 0 rfl (Put.row rfl rfl (by kernel_rfl) (szB _ _ _) (oneB _ _)) (.inl hb1) ?_
    simp only [List.set_cons_zero]
    refine HL.nil ?_
    refine HQ.next ?_
    refine HC.seq ?_
    refine HC.draw0 4 (by kernel_rfl) (by kernel_rfl) ?_
    simp only [List.take, List.drop]
    refine HV.val (Val.call en21 (fl_p) rfl) (by decide) ?_
    refine HV.val (Val.load_row rfl (fun w hw => hw.at (i := 0) rfl) Tryd.underlying30 rfl (by kernel_rfl)) (by decide) ?_
    refine HV.val (Val.call en22 (n_p (hB k hkl)) rfl) (by decide) ?_
    by_cases hx : l.getD k 0 < pf
    · refine HV.val ((Val.call en30 (has_p ((l.getD k 0))) rfl).as (congrArg Value.bool (decide_eq_true hx))) (by decide) ?_
      refine HV.tail0 ?_
      refine HL.val (Val.not rfl) (by decide) ?_
      refine HL.nil ?_
      refine HQ.next ?_
      refine HC.no rfl ?_
      refine HC.skip ?_
      refine HQ.blockNormal ?_
      refine HQ.next ?_
      refine HC.region ?_
      refine HL.val ((Val.addI rfl rfl).as (congrArg (Value.int .i64) (wrap1 k (by omega)))) (by decide) ?_
      refine HL.val (Val.move rfl) (by decide) ?_
      refine HL.nil ?_
      exact ⟨fun ac wc ha hw => ⟨⟨k + 1, hkl, all_take hp hkl hx⟩, by dsimp only; omega, ha.subS ⟨rfl, rfl, rfl, trivial⟩, hw.pick [] (by simp)⟩⟩
    · refine HV.val ((Val.call en30 (has_p ((l.getD k 0))) rfl).as (congrArg Value.bool (decide_eq_false hx))) (by decide) ?_
      refine HV.tail0 ?_
      refine HL.val (Val.not rfl) (by decide) ?_
      refine HL.nil ?_
      refine HQ.next ?_
      refine HC.yes rfl ?_
      refine HC.seq ?_
      refine HC.region ?_
      refine HL.val (Val.assign rfl) (by decide) ?_
      refine HL.nil ?_
      refine HQ.next ?_
      refine HC.ret ?_
      refine HQ.blockRet ?_
      refine HQ.thenRet ?_
      refine HQ.thenRet ?_
      refine HQ.blockRet ?_
      refine HQ.thenRet ?_
      exact HQ.ret1 rfl rfl (pure_end (congrArg Value.bool (all_not hkl hx).symm))
  · refine HL.val ((Val.lss rfl rfl).as (congrArg Value.bool ((lssN k l.length).trans (decide_eq_false hkl)))) (by decide) ?_
    refine HL.nil ?_
    refine HQ.next ?_
    refine HC.seq ?_
    refine HC.no rfl ?_
    refine HC.exit ?_
    refine HQ.thenExit ?_
    refine HQ.thenExit ?_
    refine HQ.blockExit ?_
    refine HQ.next ?_
    refine HC.seq ?_
    refine HC.region ?_
    refine HL.val (Val.assign rfl) (by decide) ?_
    refine HL.nil ?_
    refine HQ.next ?_
    refine HC.ret ?_
    exact HQ.ret1 rfl rfl (pure_end (congrArg Value.bool (all_all hp (by omega)).symm))

set_option maxRecDepth 100000 in
theorem few1_any {l : List Nat} {ad : Option Addr} {b o c : Nat} {bs Ts cs : Nat} {w : World} (h0 : w.heap[bs]? = some (.cells #[.slice ad l.length c] Ts (0, 0))) (hs : SlA (byA 16) 16 w ad b o l) (hB : ∀ k, k < l.length → l.getD k 0 < 256 ^ 16) :
    Calls Tryd.prog 34 #[.slice (some ⟨bs, 0, none⟩) 1 cs] w fun e w' => e = .returned (.bool (decide (Few l))) ∧ Below w.heap.size w w' := by
  refine calls_H (args := [.slice (some ⟨bs, 0, none⟩) 1 cs]) (noD) [(bs, .cells #[.slice ad l.length c] Ts (0, 0))] Tryd.func34 rfl (m := 20) rfl rfl (hold_any h0) ?_
  refine HC.seq ?_
  refine HC.region ?_
  refine HL.val (Val.assign rfl) (by decide) ?_
  refine HL.nil ?_
  refine HQ.next ?_
  refine HC.seq ?_
  refine HC.seq ?_
  refine HC.region ?_
  refine HL.val (Val.move rfl) (by decide) ?_
  refine HL.val (Val.lenS rfl rfl Tryd.underlying97) (by decide) ?_
  refine HL.val (Val.move rfl) (by decide) ?_
  refine HL.nil ?_
  refine HQ.next ?_
  refine HC.block ?_
  refine HC.loop (ι := {p : Nat // p ≤ 1 ∧ (0 < p → Few l)}) (fun p => 1 - p.1) (fun p => [(7, .int .i64 (p.1 : Int)), (6, .int .i64 1), (5, .slice (some ⟨bs, 0, none⟩) 1 cs)]) (fun p => [(bs, .cells #[.slice ad l.length c] Ts (0, 0))]) ⟨0, by decide, fun h => absurd h (by decide)⟩ (fun ac wc ha hw => ⟨ha.subS ⟨rfl, rfl, rfl, trivial⟩, hw.pick [0] (by simp)⟩) ?_
  rintro ⟨k, hk, hpl⟩
  dsimp only
  rcases (show k = 0 ∨ k = 1 by omega) with rfl | rfl
  · refine HC.seq ?_
    refine HC.region ?_
    refine HL.val (Val.lss rfl rfl) (by decide) ?_
    refine HL.nil ?_
    refine HQ.next ?_
    refine HC.seq ?_
    refine HC.yes rfl ?_
    refine HC.skip ?_
    refine HQ.next ?_
    refine HC.seq ?_
    refine HC.block ?_
    refine HC.seq ?_
    refine HC.region ?_
    refine HL.val (Val.ixSlice (s := 1) (i := 0) 0 rfl rfl Tryd.underlying97 (by kernel_rfl) (by decide) rfl) (by decide) ?_
    refine HL.val (Val.load_cell rfl (fun w hw => hw.at (i := 0) rfl) rfl Tryd.underlying47 rfl) (by decide) ?_
    refine HL.val (Val.assign rfl) (by decide) ?_
    refine HL.nil ?_
    refine HQ.next ?_
    refine HC.seq ?_
    refine HC.region ?_
    refine HL.val (Val.move rfl) (by decide) ?_
    refine HL.val (Val.lenS rfl rfl Tryd.underlying47) (by decide) ?_
    by_cases h1l : 64 < l.length
    · refine HL.val ((Val.gtr rfl rfl).as (congrArg Value.bool ((lssN 64 l.length).trans (decide_eq_true h1l)))) (by decide) ?_
      refine HL.val (Val.move rfl) (by decide) ?_
      refine HL.skip rfl (by decide) ?_
      refine HL.skip rfl (by decide) ?_
      refine HL.skip rfl (by decide) ?_
      refine HL.val (Val.pickT rfl rfl) (by decide) ?_
      refine HL.nil ?_
      refine HQ.next ?_
      refine HC.yes rfl ?_
      refine HC.seq ?_
      refine HC.region ?_
      refine HL.val (Val.assign rfl) (by decide) ?_
      refine HL.nil ?_
      refine HQ.next ?_
      refine HC.ret ?_
      refine HQ.blockRet ?_
      refine HQ.thenRet ?_
      refine HQ.thenRet ?_
      refine HQ.blockRet ?_
      refine HQ.thenRet ?_
      exact HQ.ret1 rfl rfl (pure_end (congrArg Value.bool (decide_eq_false (show ¬ (Few l) from fun h => by unfold Few at h; first | exact absurd h.1 (by omega) | exact absurd h.2 (by assumption) | exact absurd h.1.1 (by omega) | exact absurd h.1.2 (by assumption) | exact absurd h.2.1 (by omega) | exact absurd h.2.2 (by assumption))).symm))
    · refine HL.val ((Val.gtr rfl rfl).as (congrArg Value.bool ((lssN 64 l.length).trans (decide_eq_false h1l)))) (by decide) ?_
      refine HL.val (Val.move rfl) (by decide) ?_
      refine HL.valg rfl (Val.move rfl) (by decide) ?_
      by_cases h2l : l.all (fun x => decide (x < pf)) = true
      · refine HL.valg rfl ((Val.calls en25 (fun w hw => hasA_any (hs.sn szBy hw.sn rfl) hB (by omega)) rfl).as (congrArg Value.bool (h2l))) (by decide) ?_
        refine HL.valg rfl (Val.not rfl) (by decide) ?_
        refine HL.val (Val.pickF rfl rfl) (by decide) ?_
        refine HL.nil ?_
        refine HQ.next ?_
        refine HC.no rfl ?_
        refine HC.skip ?_
        refine HQ.blockNormal ?_
        refine HQ.next ?_
        refine HC.region ?_
        refine HL.val ((Val.addI rfl rfl).as (v := .int .i64 ((0 + 1 : Nat) : Int)) rfl) (by decide) ?_
        refine HL.val (Val.move rfl) (by decide) ?_
        refine HL.nil ?_
        exact ⟨fun ac wc ha hw => ⟨⟨0 + 1, by decide, fun _ => ⟨by omega, h2l⟩⟩, by dsimp only; omega, ha.subS ⟨rfl, rfl, rfl, trivial⟩, hw.pick [0] (by simp)⟩⟩
      · refine HL.valg rfl ((Val.calls en25 (fun w hw => hasA_any (hs.sn szBy hw.sn rfl) hB (by omega)) rfl).as (congrArg Value.bool (Bool.eq_false_iff.2 h2l))) (by decide) ?_
        refine HL.valg rfl (Val.not rfl) (by decide) ?_
        refine HL.val (Val.pickF rfl rfl) (by decide) ?_
        refine HL.nil ?_
        refine HQ.next ?_
        refine HC.yes rfl ?_
        refine HC.seq ?_
        refine HC.region ?_
        refine HL.val (Val.assign rfl) (by decide) ?_
        refine HL.nil ?_
        refine HQ.next ?_
        refine HC.ret ?_
        refine HQ.blockRet ?_
        refine HQ.thenRet ?_
        refine HQ.thenRet ?_
        refine HQ.blockRet ?_
        refine HQ.thenRet ?_
        exact HQ.ret1 rfl rfl (pure_end (congrArg Value.bool (decide_eq_false (show ¬ (Few l) from fun h => by unfold Few at h; first | exact absurd h.1 (by omega) | exact absurd h.2 (by assumption) | exact absurd h.1.1 (by omega) | exact absurd h.1.2 (by assumption) | exact absurd h.2.1 (by omega) | exact absurd h.2.2 (by assumption))).symm))
  · refine HC.seq ?_
    refine HC.region ?_
    refine HL.val (Val.lss rfl rfl) (by decide) ?_
    refine HL.nil ?_
    refine HQ.next ?_
    refine HC.seq ?_
    refine HC.no rfl ?_
    refine HC.exit ?_
    refine HQ.thenExit ?_
    refine HQ.thenExit ?_
    refine HQ.blockExit ?_
    refine HQ.next ?_
    refine HC.seq ?_
    refine HC.region ?_
    refine HL.val (Val.assign rfl) (by decide) ?_
    refine HL.nil ?_
    refine HQ.next ?_
    refine HC.ret ?_
    exact HQ.ret1 rfl rfl (pure_end (congrArg Value.bool (decide_eq_true (show Few l from hpl (by decide))).symm))

set_option maxRecDepth 100000 in
theorem few2_any {l : List Nat} {ad : Option Addr} {b o c : Nat} {m : List Nat} {ad2 : Option Addr} {b2 o2 c2 : Nat} {bs Ts cs : Nat} {w : World} (h0 : w.heap[bs]? = some (.cells #[.slice ad l.length c, .slice ad2 m.length c2] Ts (0, 0))) (hs : SlA (byA 16) 16 w ad b o l) (hB : ∀ k, k < l.length → l.getD k 0 < 256 ^ 16) (hs2 : SlA (byA 16) 16 w ad2 b2 o2 m) (hB2 : ∀ k, k < m.length → m.getD k 0 < 256 ^ 16) :
    Calls Tryd.prog 34 #[.slice (some ⟨bs, 0, none⟩) 2 cs] w fun e w' => e = .returned (.bool (decide (Few l ∧ Few m))) ∧ Below w.heap.size w w' := by
  refine calls_H (args := [.slice (some ⟨bs, 0, none⟩) 2 cs]) (noD) [(bs, .cells #[.slice ad l.length c, .slice ad2 m.length c2] Ts (0, 0))] Tryd.func34 rfl (m := 20) rfl rfl (hold_any h0) ?_
  refine HC.seq ?_
  refine HC.region ?_
  refine HL.val (Val.assign rfl) (by decide) ?_
  refine HL.nil ?_
  refine HQ.next ?_
  refine HC.seq ?_
  refine HC.seq ?_
  refine HC.region ?_
  refine HL.val (Val.move rfl) (by decide) ?_
  refine HL.val (Val.lenS rfl rfl Tryd.underlying97) (by decide) ?_
  refine HL.val (Val.move rfl) (by decide) ?_
  refine HL.nil ?_
  refine HQ.next ?_
  refine HC.block ?_
  refine HC.loop (ι := {p : Nat // p ≤ 2 ∧ (0 < p → Few l) ∧ (1 < p → Few m)}) (fun p => 2 - p.1) (fun p => [(7, .int .i64 (p.1 : Int)), (6, .int .i64 2), (5, .slice (some ⟨bs, 0, none⟩) 2 cs)]) (fun p => [(bs, .cells #[.slice ad l.length c, .slice ad2 m.length c2] Ts (0, 0))]) ⟨0, by decide, fun h => absurd h (by decide), fun h => absurd h (by decide)⟩ (fun ac wc ha hw => ⟨ha.subS ⟨rfl, rfl, rfl, trivial⟩, hw.pick [0] (by simp)⟩) ?_
  rintro ⟨k, hk, hpl, hpm⟩
  dsimp only
  rcases (show k = 0 ∨ k = 1 ∨ k = 2 by omega) with rfl | rfl | rfl
  · refine HC.seq ?_
    refine HC.region ?_
    refine HL.val (Val.lss rfl rfl) (by decide) ?_
    refine HL.nil ?_
    refine HQ.next ?_
    refine HC.seq ?_
    refine HC.yes rfl ?_
    refine HC.skip ?_
    refine HQ.next ?_
    refine HC.seq ?_
    refine HC.block ?_
    refine HC.seq ?_
    refine HC.region ?_
    refine HL.val (Val.ixSlice (s := 1) (i := 0) 0 rfl rfl Tryd.underlying97 (by kernel_rfl) (by decide) rfl) (by decide) ?_
    refine HL.val (Val.load_cell rfl (fun w hw => hw.at (i := 0) rfl) rfl Tryd.underlying47 rfl) (by decide) ?_
    refine HL.val (Val.assign rfl) (by decide) ?_
    refine HL.nil ?_
    refine HQ.next ?_
    refine HC.seq ?_
    refine HC.region ?_
    refine HL.val (Val.move rfl) (by decide) ?_
    refine HL.val (Val.lenS rfl rfl Tryd.underlying47) (by decide) ?_
    by_cases h1l : 64 < l.length
    · refine HL.val ((Val.gtr rfl rfl).as (congrArg Value.bool ((lssN 64 l.length).trans (decide_eq_true h1l)))) (by decide) ?_
      refine HL.val (Val.move rfl) (by decide) ?_
      refine HL.skip rfl (by decide) ?_
      refine HL.skip rfl (by decide) ?_
      refine HL.skip rfl (by decide) ?_
      refine HL.val (Val.pickT rfl rfl) (by decide) ?_
      refine HL.nil ?_
      refine HQ.next ?_
      refine HC.yes rfl ?_
      refine HC.seq ?_
      refine HC.region ?_
      refine HL.val (Val.assign rfl) (by decide) ?_
      refine HL.nil ?_
      refine HQ.next ?_
      refine HC.ret ?_
      refine HQ.blockRet ?_
      refine HQ.thenRet ?_
      refine HQ.thenRet ?_
      refine HQ.blockRet ?_
      refine HQ.thenRet ?_
      exact HQ.ret1 rfl rfl (pure_end (congrArg Value.bool (decide_eq_false (show ¬ (Few l ∧ Few m) from fun h => by unfold Few at h; first | exact absurd h.1 (by omega) | exact absurd h.2 (by assumption) | exact absurd h.1.1 (by omega) | exact absurd h.1.2 (by assumption) | exact absurd h.2.1 (by omega) | exact absurd h.2.2 (by assumption))).symm))
    · refine HL.val ((Val.gtr rfl rfl).as (congrArg Value.bool ((lssN 64 l.length).trans (decide_eq_false h1l)))) (by decide) ?_
      refine HL.val (Val.move rfl) (by decide) ?_
      refine HL.valg rfl (Val.move rfl) (by decide) ?_
      by_cases h2l : l.all (fun x => decide (x < pf)) = true
      · refine HL.valg rfl ((Val.calls en25 (fun w hw => hasA_any (hs.sn szBy hw.sn rfl) hB (by omega)) rfl).as (congrArg Value.bool (h2l))) (by decide) ?_
        refine HL.valg rfl (Val.not rfl) (by decide) ?_
        refine HL.val (Val.pickF rfl rfl) (by decide) ?_
        refine HL.nil ?_
        refine HQ.next ?_
        refine HC.no rfl ?_
        refine HC.skip ?_
        refine HQ.blockNormal ?_
        refine HQ.next ?_
        refine HC.region ?_
        refine HL.val ((Val.addI rfl rfl).as (v := .int .i64 ((0 + 1 : Nat) : Int)) rfl) (by decide) ?_
        refine HL.val (Val.move rfl) (by decide) ?_
        refine HL.nil ?_
        exact ⟨fun ac wc ha hw => ⟨⟨0 + 1, by decide, fun _ => ⟨by omega, h2l⟩, fun h => absurd h (by decide)⟩, by dsimp only; omega, ha.subS ⟨rfl, rfl, rfl, trivial⟩, hw.pick [0] (by simp)⟩⟩
      · refine HL.valg rfl ((Val.calls en25 (fun w hw => hasA_any (hs.sn szBy hw.sn rfl) hB (by omega)) rfl).as (congrArg Value.bool (Bool.eq_false_iff.2 h2l))) (by decide) ?_
        refine HL.valg rfl (Val.not rfl) (by decide) ?_
        refine HL.val (Val.pickF rfl rfl) (by decide) ?_
        refine HL.nil ?_
        refine HQ.next ?_
        refine HC.yes rfl ?_
        refine HC.seq ?_
        refine HC.region ?_
        refine HL.val (Val.assign rfl) (by decide) ?_
        refine HL.nil ?_
        refine HQ.next ?_
        refine HC.ret ?_
        refine HQ.blockRet ?_
        refine HQ.thenRet ?_
        refine HQ.thenRet ?_
        refine HQ.blockRet ?_
        refine HQ.thenRet ?_
        exact HQ.ret1 rfl rfl (pure_end (congrArg Value.bool (decide_eq_false (show ¬ (Few l ∧ Few m) from fun h => by unfold Few at h; first | exact absurd h.1 (by omega) | exact absurd h.2 (by assumption) | exact absurd h.1.1 (by omega) | exact absurd h.1.2 (by assumption) | exact absurd h.2.1 (by omega) | exact absurd h.2.2 (by assumption))).symm))
  · refine HC.seq ?_
    refine HC.region ?_
    refine HL.val (Val.lss rfl rfl) (by decide) ?_
    refine HL.nil ?_
    refine HQ.next ?_
    refine HC.seq ?_
    refine HC.yes rfl ?_
    refine HC.skip ?_
    refine HQ.next ?_
    refine HC.seq ?_
    refine HC.block ?_
    refine HC.seq ?_
    refine HC.region ?_
    refine HL.val (Val.ixSlice (s := 1) (i := 1) 1 rfl rfl Tryd.underlying97 (by kernel_rfl) (by decide) rfl) (by decide) ?_
    refine HL.val (Val.load_cell rfl (fun w hw => hw.at (i := 0) rfl) rfl Tryd.underlying47 rfl) (by decide) ?_
    refine HL.val (Val.assign rfl) (by decide) ?_
    refine HL.nil ?_
    refine HQ.next ?_
    refine HC.seq ?_
    refine HC.region ?_
    refine HL.val (Val.move rfl) (by decide) ?_
    refine HL.val (Val.lenS rfl rfl Tryd.underlying47) (by decide) ?_
    by_cases h1m : 64 < m.length
    · refine HL.val ((Val.gtr rfl rfl).as (congrArg Value.bool ((lssN 64 m.length).trans (decide_eq_true h1m)))) (by decide) ?_
      refine HL.val (Val.move rfl) (by decide) ?_
      refine HL.skip rfl (by decide) ?_
      refine HL.skip rfl (by decide) ?_
      refine HL.skip rfl (by decide) ?_
      refine HL.val (Val.pickT rfl rfl) (by decide) ?_
      refine HL.nil ?_
      refine HQ.next ?_
      refine HC.yes rfl ?_
      refine HC.seq ?_
      refine HC.region ?_
      refine HL.val (Val.assign rfl) (by decide) ?_
      refine HL.nil ?_
      refine HQ.next ?_
      refine HC.ret ?_
      refine HQ.blockRet ?_
      refine HQ.thenRet ?_
      refine HQ.thenRet ?_
      refine HQ.blockRet ?_
      refine HQ.thenRet ?_
      exact HQ.ret1 rfl rfl (pure_end (congrArg Value.bool (decide_eq_false (show ¬ (Few l ∧ Few m) from fun h => by unfold Few at h; first | exact absurd h.1 (by omega) | exact absurd h.2 (by assumption) | exact absurd h.1.1 (by omega) | exact absurd h.1.2 (by assumption) | exact absurd h.2.1 (by omega) | exact absurd h.2.2 (by assumption))).symm))
    · refine HL.val ((Val.gtr rfl rfl).as (congrArg Value.bool ((lssN 64 m.length).trans (decide_eq_false h1m)))) (by decide) ?_
      refine HL.val (Val.move rfl) (by decide) ?_
      refine HL.valg rfl (Val.move rfl) (by decide) ?_
      by_cases h2m : m.all (fun x => decide (x < pf)) = true
      · refine HL.valg rfl ((Val.calls en25 (fun w hw => hasA_any (hs2.sn szBy hw.sn rfl) hB2 (by omega)) rfl).as (congrArg Value.bool (h2m))) (by decide) ?_
        refine HL.valg rfl (Val.not rfl) (by decide) ?_
        refine HL.val (Val.pickF rfl rfl) (by decide) ?_
        refine HL.nil ?_
        refine HQ.next ?_
        refine HC.no rfl ?_
        refine HC.skip ?_
        refine HQ.blockNormal ?_
        refine HQ.next ?_
        refine HC.region ?_
        refine HL.val ((Val.addI rfl rfl).as (v := .int .i64 ((1 + 1 : Nat) : Int)) rfl) (by decide) ?_
        refine HL.val (Val.move rfl) (by decide) ?_
        refine HL.nil ?_
        exact ⟨fun ac wc ha hw => ⟨⟨1 + 1, by decide, fun _ => hpl (by decide), fun _ => ⟨by omega, h2m⟩⟩, by dsimp only; omega, ha.subS ⟨rfl, rfl, rfl, trivial⟩, hw.pick [0] (by simp)⟩⟩
      · refine HL.valg rfl ((Val.calls en25 (fun w hw => hasA_any (hs2.sn szBy hw.sn rfl) hB2 (by omega)) rfl).as (congrArg Value.bool (Bool.eq_false_iff.2 h2m))) (by decide) ?_
        refine HL.valg rfl (Val.not rfl) (by decide) ?_
        refine HL.val (Val.pickF rfl rfl) (by decide) ?_
        refine HL.nil ?_
        refine HQ.next ?_
        refine HC.yes rfl ?_
        refine HC.seq ?_
        refine HC.region ?_
        refine HL.val (Val.assign rfl) (by decide) ?_
        refine HL.nil ?_
        refine HQ.next ?_
        refine HC.ret ?_
        refine HQ.blockRet ?_
        refine HQ.thenRet ?_
        refine HQ.thenRet ?_
        refine HQ.blockRet ?_
        refine HQ.thenRet ?_
        exact HQ.ret1 rfl rfl (pure_end (congrArg Value.bool (decide_eq_false (show ¬ (Few l ∧ Few m) from fun h => by unfold Few at h; first | exact absurd h.1 (by omega) | exact absurd h.2 (by assumption) | exact absurd h.1.1 (by omega) | exact absurd h.1.2 (by assumption) | exact absurd h.2.1 (by omega) | exact absurd h.2.2 (by assumption))).symm))
  · refine HC.seq ?_
    refine HC.region ?_
    refine HL.val (Val.lss rfl rfl) (by decide) ?_
    refine HL.nil ?_
    refine HQ.next ?_
    refine HC.seq ?_
    refine HC.no rfl ?_
    refine HC.exit ?_
    refine HQ.thenExit ?_
    refine HQ.thenExit ?_
    refine HQ.blockExit ?_
    refine HQ.next ?_
    refine HC.seq ?_
    refine HC.region ?_
    refine HL.val (Val.assign rfl) (by decide) ?_
    refine HL.nil ?_
    refine HQ.next ?_
    refine HC.ret ?_
    exact HQ.ret1 rfl rfl (pure_end (congrArg Value.bool (decide_eq_true (show Few l ∧ Few m from ⟨hpl (by decide), hpm (by decide)⟩)).symm))

theorem room {k m : Nat} (h : k < m) : k * 2 + 2 ≤ m * 2 := by have := Nat.mul_le_mul_right 2 (show k + 1 ≤ m from h); omega
theorem made_els {m : Nat} : madeCells (Value.agg (rawC 0)).cells (m * 2) = flat fpC (List.replicate m 0) := by
  have h := flat_made szE m
  rw [show fpC 0 = rawC 0 by unfold fpC; rw [mont_zero]] at h
  exact h
set_option maxRecDepth 100000 in
theorem list_good {l : List Nat} {ad : Option Addr} {b o c : Nat} {w : World} (hg : GR w) (hs : SlA (byA 16) 16 w ad b o l) (hp : AllLt l) (hl : l.length ≤ 100000) :
    Calls Tryd.prog 81 #[.slice ad l.length c] w fun e w' => ∃ r : Fam, True ∧ e = .returned (.tuple #[.slice (some ⟨r.1, 0, none⟩) l.length l.length, .bool true]) ∧ Below w.heap.size w w' ∧ w.heap.size ≤ r.1 ∧ w'.heap[r.1]? = some (.cells (flat fpC l) 81 (0, 0)) := by
  refine calls_H (args := [.slice ad l.length c]) (noD) [] Tryd.func81 rfl (m := 32) rfl rfl (hold_nil _ _) ?_
  refine HC.seq ?_
  refine HC.region ?_
  refine HL.val (Val.assign rfl) (by decide) ?_
  refine HL.val (Val.assign rfl) (by decide) ?_
  refine HL.nil ?_
  refine HQ.next ?_
  refine HC.seq ?_
  refine HC.region ?_
  refine HL.val (Val.move rfl) (by decide) ?_
  refine HL.val (Val.lenS rfl rfl Tryd.underlying47) (by decide) ?_
  refine HL.new (New.make (s := 2) (by' := 16) (z := .agg (rawC 0)) l.length rfl rfl Tryd.underlying98 (by kernel_rfl) (by kernel_rfl) (by kernel_rfl) (by omega) (by omega) made_els) (by decide) ?_
  intro b1 hb1
  refine HL.val (Val.assign rfl) (by decide) ?_
  refine HL.nil ?_
  refine HQ.next ?_
  refine HC.seq ?_
  refine HC.seq ?_
  refine HC.region ?_
  refine HL.val (Val.move rfl) (by decide) ?_
  refine HL.val (Val.lenS rfl rfl Tryd.underlying47) (by decide) ?_
  refine HL.val (Val.move rfl) (by decide) ?_
  refine HL.nil ?_
  refine HQ.next ?_
  refine HC.block ?_
  refine HC.loop (ι := {p : Nat // p ≤ l.length}) (fun p => l.length - p.1) (fun p => [(0, .slice ad l.length c), (4, .slice (some ⟨b1, 0, none⟩) l.length l.length), (13, .int .i64 (p.1 : Int)), (12, .int .i64 (l.length : Int))]) (fun p => [(b1, .cells (flat fpC (stM (fun i => l.getD i 0) (List.replicate l.length 0) p.1)) 81 (0, 0))]) ⟨0, Nat.zero_le _⟩ (fun ac wc ha hw => ⟨ha.subS ⟨rfl, rfl, rfl, rfl, trivial⟩, by have h := hw.pick [0] (by simp); dsimp only; rw [stM_zero]; exact h⟩) ?_
  rintro ⟨k, hk⟩
  dsimp only
  refine HC.seq ?_
  refine HC.region ?_
  by_cases hkl : k < l.length
  · refine HL.val ((Val.lss rfl rfl).as (congrArg Value.bool ((lssN k l.length).trans (decide_eq_true hkl)))) (by decide) ?_
    refine HL.nil ?_
    refine HQ.next ?_
    refine HC.seq ?_
    refine HC.yes rfl ?_
    refine HC.skip ?_
    refine HQ.next ?_
    refine HC.seq ?_
    refine HC.block ?_
    refine HC.seq ?_
    refine HC.region ?_
    refine HL.val (Val.move rfl) (by decide) ?_
    refine HL.val (Val.assign rfl) (by decide) ?_
    refine HL.nil ?_
    refine HQ.next ?_
    refine HC.seq ?_
    refine HC.region ?_
    refine HL.val (Val.move rfl) (by decide) ?_
    refine HL.val (Val.move rfl) (by decide) ?_
    refine HL.val (Val.ixSliceA (s := 16) (i := k) (o + k * 16) rfl (hs.at hkl) rfl Tryd.underlying47 (by kernel_rfl) hkl rfl) (by decide) ?_
    refine HL.val (Val.load_cells (byA 16 (l.getD k 0)) rfl (fun w hw => (hs.sn szBy hw.sn rfl).row szBy hkl) Tryd.underlying30 rfl (by kernel_rfl)) (by decide) ?_
    refine HL.val (Val.calls en71 (fun w hw => ofT (hg.sn hw.sn rfl) (hp k hkl)) rfl) (by decide) ?_
    refine HL.val (Val.move rfl) (by decide) ?_
    refine HL.val (Val.extract rfl rfl) (by decide) ?_
    refine HL.val (Val.extract rfl rfl) (by decide) ?_
    refine HL.new (New.alloc al81) (by decide) ?_
    intro b2 hb2
    refine HL.put 0 rfl (Put.row rfl rfl (by kernel_rfl) (szR _ _) (rawC_one _)) (.inl hb2) ?_
    simp only [List.set_cons_zero]
    refine HL.val (Val.assign rfl) (by decide) ?_
    refine HL.nil ?_
    refine HQ.next ?_
    refine HC.seq ?_
    refine HC.seq ?_
    refine HC.region ?_
    refine HL.val (Val.move rfl) (by decide) ?_
    refine HL.val (Val.not rfl) (by decide) ?_
    refine HL.nil ?_
    refine HQ.next ?_
    refine HC.no rfl ?_
    refine HC.skip ?_
    refine HQ.next ?_
    refine HC.region ?_
    refine HL.val (Val.move rfl) (by decide) ?_
    refine HL.val (Val.move rfl) (by decide) ?_
    refine HL.val (Val.load_row rfl (fun w hw => hw.at (i := 0) rfl) Tryd.underlying81 rfl (by kernel_rfl)) (by decide) ?_
    refine HL.val (Val.ixSlice (s := 2) (i := k) (k * 2) rfl rfl Tryd.underlying98 (by kernel_rfl) hkl (by omega)) (by decide) ?_
    refine HL.put 1 rfl (Put.mid rfl rfl (by kernel_rfl) (by rw [flat_size szE, stM_len, List.length_replicate]; exact room hkl) (rawC_one _) (by rw [flat_size szE, flat_size szE, List.length_set]) (flat_set szE (show k < (stM (fun i => l.getD i 0) (List.replicate l.length 0) k).length by rw [stM_len, List.length_replicate]; exact hkl) (l.getD k 0))) (.inl hb1) ?_
    simp only [List.set_cons_zero, List.set_cons_succ]
    refine HL.nil ?_
    refine HQ.blockNormal ?_
    refine HQ.next ?_
    refine HC.region ?_
    refine HL.val ((Val.addI rfl rfl).as (congrArg (Value.int .i64) (wrap1 k (by omega)))) (by decide) ?_
    refine HL.val (Val.move rfl) (by decide) ?_
    refine HL.nil ?_
    exact ⟨fun ac wc ha hw => ⟨⟨k + 1, hkl⟩, by dsimp only; omega, ha.subS ⟨rfl, rfl, rfl, rfl, trivial⟩, by have h := hw.pick [1] (by simp); simp only [List.filterMap_cons, List.filterMap_nil, List.getElem?_cons_zero, List.getElem?_cons_succ] at h; rw [stM_set _ (by rw [List.length_replicate]; exact hkl) rfl] at h; exact h⟩⟩
  · refine HL.val ((Val.lss rfl rfl).as (congrArg Value.bool ((lssN k l.length).trans (decide_eq_false hkl)))) (by decide) ?_
    refine HL.nil ?_
    refine HQ.next ?_
    refine HC.seq ?_
    refine HC.no rfl ?_
    refine HC.exit ?_
    refine HQ.thenExit ?_
    refine HQ.thenExit ?_
    refine HQ.blockExit ?_
    refine HQ.next ?_
    refine HC.seq ?_
    refine HC.region ?_
    refine HL.val (Val.move rfl) (by decide) ?_
    refine HL.val (Val.assign rfl) (by decide) ?_
    refine HL.val (Val.assign rfl) (by decide) ?_
    refine HL.nil ?_
    refine HQ.next ?_
    refine HC.ret ?_
    refine HQ.ret2 rfl rfl rfl (fun w hw => ?_)
    have e : stM (fun i => l.getD i 0) (List.replicate l.length 0) k = l := by rw [stM_end _ _ (by rw [List.length_replicate]; omega), List.length_replicate, mapR_self]
    have h := hw.at (i := 0) rfl
    rw [e] at h
    exact ⟨(b1, 0, #[]), trivial, rfl, hw.sn.pure, hb1, h⟩

theorem roomB {k m : Nat} (h : k < m) : k * 16 + 16 ≤ m * 16 := by have := Nat.mul_le_mul_right 16 (show k + 1 ≤ m from h); omega
set_option maxRecDepth 100000 in
theorem all_good {l : List Nat} {ad : Option Addr} {b o c : Nat} {w : World} (hs : SlA fpC 2 w ad b o l) (hp : AllLt l) (hl : l.length ≤ 100000) :
    Calls Tryd.prog 82 #[.slice ad l.length c] w fun e w' => ∃ r : Fam, True ∧ e = .returned (.slice (some ⟨r.1, 0, none⟩) l.length l.length) ∧ Below w.heap.size w w' ∧ w.heap.size ≤ r.1 ∧ w'.heap[r.1]? = some (.cells (flat (byA 16) l) 30 (0, 0)) := by
  refine calls_H (args := [.slice ad l.length c]) (noD) [] Tryd.func82 rfl (m := 23) rfl rfl (hold_nil _ _) ?_
  refine HC.seq ?_
  refine HC.region ?_
  refine HL.val (Val.assign rfl) (by decide) ?_
  refine HL.nil ?_
  refine HQ.next ?_
  refine HC.seq ?_
  refine HC.region ?_
  refine HL.val (Val.move rfl) (by decide) ?_
  refine HL.val (Val.lenS rfl rfl Tryd.underlying98) (by decide) ?_
  refine HL.new (New.make (s := 16) (by' := 16) (z := byV 16 0) l.length rfl rfl Tryd.underlying47 (by kernel_rfl) (by kernel_rfl) (by kernel_rfl) (by omega) (by omega) (flat_made szBy l.length)) (by decide) ?_
  intro b1 hb1
  refine HL.val (Val.assign rfl) (by decide) ?_
  refine HL.nil ?_
  refine HQ.next ?_
  refine HC.seq ?_
  refine HC.seq ?_
  refine HC.region ?_
  refine HL.val (Val.move rfl) (by decide) ?_
  refine HL.val (Val.lenS rfl rfl Tryd.underlying98) (by decide) ?_
  refine HL.val (Val.move rfl) (by decide) ?_
  refine HL.nil ?_
  refine HQ.next ?_
  refine HC.block ?_
  refine HC.loop (ι := {p : Nat // p ≤ l.length}) (fun p => l.length - p.1) (fun p => [(0, .slice ad l.length c), (3, .slice (some ⟨b1, 0, none⟩) l.length l.length), (10, .int .i64 (p.1 : Int)), (9, .int .i64 (l.length : Int))]) (fun p => [(b1, .cells (flat (byA 16) (stM (fun i => l.getD i 0) (List.replicate l.length 0) p.1)) 30 (0, 0))]) ⟨0, Nat.zero_le _⟩ (fun ac wc ha hw => ⟨ha.subS ⟨rfl, rfl, rfl, rfl, trivial⟩, by have h := hw.pick [0] (by simp); dsimp only; rw [stM_zero]; exact h⟩) ?_
  rintro ⟨k, hk⟩
  dsimp only
  refine HC.seq ?_
  refine HC.region ?_
  by_cases hkl : k < l.length
  · refine HL.val ((Val.lss rfl rfl).as (congrArg Value.bool ((lssN k l.length).trans (decide_eq_true hkl)))) (by decide) ?_
    refine HL.nil ?_
    refine HQ.next ?_
    refine HC.seq ?_
    refine HC.yes rfl ?_
    refine HC.skip ?_
    refine HQ.next ?_
    refine HC.seq ?_
    refine HC.block ?_
    refine HC.seq ?_
    refine HC.region ?_
    refine HL.val (Val.move rfl) (by decide) ?_
    refine HL.val (Val.assign rfl) (by decide) ?_
    refine HL.nil ?_
    refine HQ.next ?_
    refine HC.region ?_
    refine HL.val (Val.move rfl) (by decide) ?_
    refine HL.val (Val.move rfl) (by decide) ?_
    refine HL.val (Val.move rfl) (by decide) ?_
    refine HL.val (Val.move rfl) (by decide) ?_
    refine HL.val (Val.ixSliceA (s := 2) (i := k) (o + k * 2) rfl (hs.at hkl) rfl Tryd.underlying98 (by kernel_rfl) hkl rfl) (by decide) ?_
    refine HL.val (Val.load_cells (fpC (l.getD k 0)) rfl (fun w hw => (hs.sn szE hw.sn rfl).row szE hkl) Tryd.underlying81 rfl (by kernel_rfl)) (by decide) ?_
    refine HL.val (Val.call en69 (told_p ((l.getD k 0)) (hp k hkl)) rfl) (by decide) ?_
    refine HL.val (Val.ixSlice (s := 16) (i := k) (k * 16) rfl rfl Tryd.underlying47 (by kernel_rfl) hkl (by omega)) (by decide) ?_
    refine HL.put 0 rfl (Put.mid rfl rfl (by kernel_rfl) (by rw [flat_size szBy, stM_len, List.length_replicate, szBy]; exact roomB hkl) (oneB _ _) (by rw [flat_size szBy, flat_size szBy, List.length_set]) (flat_set szBy (show k < (stM (fun i => l.getD i 0) (List.replicate l.length 0) k).length by rw [stM_len, List.length_replicate]; exact hkl) (l.getD k 0))) (.inl hb1) ?_
    simp only [List.set_cons_zero]
    refine HL.nil ?_
    refine HQ.blockNormal ?_
    refine HQ.next ?_
    refine HC.region ?_
    refine HL.val ((Val.addI rfl rfl).as (congrArg (Value.int .i64) (wrap1 k (by omega)))) (by decide) ?_
    refine HL.val (Val.move rfl) (by decide) ?_
    refine HL.nil ?_
    exact ⟨fun ac wc ha hw => ⟨⟨k + 1, hkl⟩, by dsimp only; omega, ha.subS ⟨rfl, rfl, rfl, rfl, trivial⟩, by have h := hw.pick [0] (by simp); simp only [List.filterMap_cons, List.filterMap_nil, List.getElem?_cons_zero] at h; rw [stM_set _ (by rw [List.length_replicate]; exact hkl) rfl] at h; exact h⟩⟩
  · refine HL.val ((Val.lss rfl rfl).as (congrArg Value.bool ((lssN k l.length).trans (decide_eq_false hkl)))) (by decide) ?_
    refine HL.nil ?_
    refine HQ.next ?_
    refine HC.seq ?_
    refine HC.no rfl ?_
    refine HC.exit ?_
    refine HQ.thenExit ?_
    refine HQ.thenExit ?_
    refine HQ.blockExit ?_
    refine HQ.next ?_
    refine HC.seq ?_
    refine HC.region ?_
    refine HL.val (Val.move rfl) (by decide) ?_
    refine HL.val (Val.assign rfl) (by decide) ?_
    refine HL.nil ?_
    refine HQ.next ?_
    refine HC.ret ?_
    refine HQ.ret1 rfl rfl (fun w hw => ?_)
    have e : stM (fun i => l.getD i 0) (List.replicate l.length 0) k = l := by rw [stM_end _ _ (by rw [List.length_replicate]; omega), List.length_replicate, mapR_self]
    have h := hw.at (i := 0) rfl
    rw [e] at h
    exact ⟨(b1, 0, #[]), trivial, rfl, hw.sn.pure, hb1, h⟩

theorem memW (x : Nat) : ∀ v ∈ wA x, v.oneCell' = true := fun v hv => by
  have h := wA_one x
  rw [Array.all_eq_true_iff_forall_mem] at h
  exact h v hv
theorem infoW : (Tryd.prog.info? 25).bind (·.zero) = some (.agg (wA 0)) := by kernel_rfl
theorem fillW1 (x : Nat) : Instr.fill (fun i => some (i * 2, 2)) ((Array.range (1 * 2)).map ((Value.agg (wA 0)).cells[· % (Value.agg (wA 0)).cells.size]!)) [(0, .agg (wA x))] = some (wA x) := by kernel_rfl
set_option maxRecDepth 100000 in
theorem l_any {l : List Nat} {ad : Option Addr} {b o c : Nat} {w0 : World} (hs : SlA (byA 16) 16 w0 ad b o l) (hB : ∀ k, k < l.length → l.getD k 0 < 256 ^ 16) (hl : l.length ≤ 100000) :
    Calls Tryd.prog 36 #[.slice ad l.length c] w0 fun e w' => ∃ r : Fam, (PreW r.2.2 l ∧ l.length ≤ r.2.1) ∧ e = .returned (.slice (some ⟨r.1, 0, none⟩) l.length r.2.1) ∧ Below w0.heap.size w0 w' ∧ w0.heap.size ≤ r.1 ∧ w'.heap[r.1]? = some (.cells r.2.2 25 (0, 0)) := by
  refine calls_H (args := [.slice ad l.length c]) (noD) [] Tryd.func36 rfl (m := 20) rfl rfl (hold_nil _ _) ?_
  refine HC.seq ?_
  refine HC.region ?_
  refine HL.val (Val.assign rfl) (by decide) ?_
  refine HL.nil ?_
  refine HQ.next ?_
  refine HC.seq ?_
  refine HC.region ?_
  refine HL.new (New.bslice0 (s := 2) rfl Tryd.underlying51 (by kernel_rfl)) (by decide) ?_
  intro b1 hb1
  refine HL.val (Val.assign rfl) (by decide) ?_
  refine HL.nil ?_
  refine HQ.next ?_
  refine HC.seq ?_
  refine HC.seq ?_
  refine HC.region ?_
  refine HL.val (Val.move rfl) (by decide) ?_
  refine HL.val (Val.lenS rfl rfl Tryd.underlying47) (by decide) ?_
  refine HL.val (Val.move rfl) (by decide) ?_
  refine HL.nil ?_
  refine HQ.next ?_
  refine HC.block ?_
  refine HC.loop (ι := {p : Nat × Nat × Nat × Array Value // p.1 ≤ l.length ∧ w0.heap.size ≤ p.2.1 ∧ p.1 ≤ p.2.2.1 ∧ p.2.2.2.size = p.2.2.1 * 2 ∧ PreW p.2.2.2 (l.take p.1)}) (fun p => l.length - p.1.1) (fun p => [(7, .slice ad l.length c), (3, .slice (some ⟨p.1.2.1, 0, none⟩) p.1.1 p.1.2.2.1), (9, .int .i64 (p.1.1 : Int)), (8, .int .i64 (l.length : Int))]) (fun p => [(p.1.2.1, .cells p.1.2.2.2 25 (0, 0))]) ⟨(0, b1, 0, #[]), Nat.zero_le _, hb1, Nat.le_refl _, rfl, preW_nil⟩ (fun ac wc ha hw => ⟨ha.subS ⟨rfl, rfl, rfl, rfl, trivial⟩, hw.pick [0] (by simp)⟩) ?_
  rintro ⟨⟨k, bo, mc, cur⟩, hk, hbo, hmc, hcs, hpw⟩
  dsimp only at hk hbo hmc hcs hpw ⊢
  have hlen : (l.take k).length = k := by rw [List.length_take]; omega
  refine HC.seq ?_
  refine HC.region ?_
  by_cases hkl : k < l.length
  · refine HL.val ((Val.lss rfl rfl).as (congrArg Value.bool ((lssN k l.length).trans (decide_eq_true hkl)))) (by decide) ?_
    refine HL.nil ?_
    refine HQ.next ?_
    refine HC.seq ?_
    refine HC.yes rfl ?_
    refine HC.skip ?_
    refine HQ.next ?_
    refine HC.seq ?_
    refine HC.block ?_
    refine HC.seq ?_
    refine HC.region ?_
    refine HL.val (Val.ixSliceA (s := 16) (i := k) (o + k * 16) rfl (hs.at hkl) rfl Tryd.underlying47 (by kernel_rfl) hkl rfl) (by decide) ?_
    refine HL.val (Val.load_cells (byA 16 (l.getD k 0)) rfl (fun w hw => (hs.sn szBy hw.sn rfl).row szBy hkl) Tryd.underlying30 rfl (by kernel_rfl)) (by decide) ?_
    refine HL.new (New.alloc al30) (by decide) ?_
    intro b2 hb2
    refine HL.put 0 rfl (Put.row rfl rfl (by kernel_rfl) (szB _ _ _) (oneB _ _)) (.inl hb2) ?_
    simp only [List.set_cons_zero]
    refine HL.nil ?_
    refine HQ.next ?_
    refine HC.region ?_
    refine HL.val (Val.move rfl) (by decide) ?_
    refine HL.val (Val.load_row rfl (fun w hw => hw.at (i := 0) rfl) Tryd.underlying30 rfl (by kernel_rfl)) (by decide) ?_
    refine HL.val (Val.call en22 (n_p (hB k hkl)) rfl) (by decide) ?_
    refine HL.new (New.bslice rfl Tryd.underlying51 (by kernel_rfl) infoW (by decide) (by decide) (fillW1 _)) (by decide) ?_
    intro b3 hb3
    refine HL.app (s := 2) (by' := 16) (z := .agg (wA 0)) 2 (wA (l.getD k 0)) rfl rfl Tryd.underlying51 (by kernel_rfl) (by kernel_rfl) rfl (by kernel_rfl) rfl hmc hcs rfl (fun w hw => cell_row (hw.at (i := 0) rfl)) (memW _) hbo (by omega) (by decide) (by decide) ?_
    intro bo2 mc2 cur2 hbo2 hmc2 hcs2 hk1 hk2
    simp only [List.set_cons_zero, List.set_cons_succ]
    refine HL.val (Val.assign rfl) (by decide) ?_
    refine HL.nil ?_
    refine HQ.blockNormal ?_
    refine HQ.next ?_
    refine HC.region ?_
    refine HL.val ((Val.addI rfl rfl).as (congrArg (Value.int .i64) (wrap1 k (by omega)))) (by decide) ?_
    refine HL.val (Val.move rfl) (by decide) ?_
    refine HL.nil ?_
    exact ⟨fun ac wc ha hw => ⟨⟨(k + 1, bo2, mc2, cur2), hkl, hbo2, hmc2, hcs2, by rw [← take_snoc hkl]; exact PreW.app hpw (by rw [hlen]; exact hk1) (by rw [hlen]; exact hk2)⟩, by dsimp only; omega, ha.subS ⟨rfl, rfl, rfl, rfl, trivial⟩, hw.pick [2] (by simp)⟩⟩
  · refine HL.val ((Val.lss rfl rfl).as (congrArg Value.bool ((lssN k l.length).trans (decide_eq_false hkl)))) (by decide) ?_
    refine HL.nil ?_
    refine HQ.next ?_
    refine HC.seq ?_
    refine HC.no rfl ?_
    refine HC.exit ?_
    refine HQ.thenExit ?_
    refine HQ.thenExit ?_
    refine HQ.blockExit ?_
    refine HQ.next ?_
    refine HC.seq ?_
    refine HC.region ?_
    refine HL.val (Val.move rfl) (by decide) ?_
    refine HL.val (Val.assign rfl) (by decide) ?_
    refine HL.nil ?_
    refine HQ.next ?_
    refine HC.ret ?_
    obtain rfl : k = l.length := by omega
    rw [List.take_length] at hpw
    exact HQ.ret1 rfl rfl (fun w hw => ⟨(bo, mc, cur), ⟨hpw, hmc⟩, rfl, hw.sn.pure, hbo, hw.at (i := 0) rfl⟩)

theorem eq_next {l m : List Nat} {k : Nat} (hp : ∀ i, i < k → l.getD i 0 = m.getD i 0) (h : l.getD k 0 = m.getD k 0) : ∀ i, i < k + 1 → l.getD i 0 = m.getD i 0 := fun i hi => by
  rcases Nat.lt_or_ge i k with h1 | h1
  · exact hp i h1
  · obtain rfl : i = k := by omega
    exact h
theorem list_eq {l m : List Nat} (hl : l.length = m.length) (h : ∀ i, i < l.length → l.getD i 0 = m.getD i 0) : l = m := by
  apply List.ext_getElem hl
  intro i h1 h2
  have := h i h1
  simpa [List.getD, h1, h2] using this
theorem neqL {a b : Nat} (h : a = b) : ((a : Int) != (b : Int)) = false := by subst h; simp
theorem neqT {a b : Nat} (h : ¬ a = b) : ((a : Int) != (b : Int)) = true := by rw [bne_iff_ne]; omega

set_option maxRecDepth 100000 in
theorem same_eq {l m : List Nat} {ad ad2 : Option Addr} {b o c b2 o2 c2 : Nat} {w : World} (hs : SlA (byA 16) 16 w ad b o l) (hB : ∀ k, k < l.length → l.getD k 0 < 256 ^ 16) (hs2 : SlA wA 2 w ad2 b2 o2 m) (hW : ∀ k, k < m.length → m.getD k 0 < 2 ^ 128) (hl : l.length ≤ 100000) (hlm : l.length = m.length) :
    Calls Tryd.prog 37 #[.slice ad l.length c, .slice ad2 m.length c2] w fun e w' => e = .returned (.bool (decide (l = m))) ∧ Below w.heap.size w w' := by
  have hm : ∀ k, k < l.length → k < m.length := fun k h => by omega
  refine calls_H (args := [.slice ad l.length c, .slice ad2 m.length c2]) (noD) [] Tryd.func37 rfl (m := 27) rfl rfl (hold_nil _ _) ?_
  refine HC.seq ?_
  refine HC.region ?_
  refine HL.val (Val.assign rfl) (by decide) ?_
  refine HL.nil ?_
  refine HQ.next ?_
  refine HC.seq ?_
  refine HC.seq ?_
  refine HC.region ?_
  refine HL.val (Val.move rfl) (by decide) ?_
  refine HL.val (Val.lenS rfl rfl Tryd.underlying47) (by decide) ?_
  refine HL.val (Val.move rfl) (by decide) ?_
  refine HL.val (Val.lenS rfl rfl Tryd.underlying51) (by decide) ?_
  refine HL.val ((Val.neqI rfl rfl).as (congrArg Value.bool (neqL hlm))) (by decide) ?_
  refine HL.nil ?_
  refine HQ.next ?_
  refine HC.no rfl ?_
  refine HC.skip ?_
  refine HQ.next ?_
  refine HC.seq ?_
  refine HC.seq ?_
  refine HC.region ?_
  refine HL.val (Val.move rfl) (by decide) ?_
  refine HL.val (Val.lenS rfl rfl Tryd.underlying47) (by decide) ?_
  refine HL.val (Val.move rfl) (by decide) ?_
  refine HL.nil ?_
  refine HQ.next ?_
  refine HC.block ?_
  refine HC.loop (ι := {p : Nat // p ≤ l.length ∧ ∀ i, i < p → l.getD i 0 = m.getD i 0}) (fun p => l.length - p.1) (fun p => [(0, .slice ad l.length c), (1, .slice ad2 m.length c2), (13, .int .i64 (p.1 : Int)), (12, .int .i64 (l.length : Int))]) (fun p => []) ⟨0, Nat.zero_le _, fun i hi => absurd hi (by omega)⟩ (fun ac wc ha hw => ⟨ha.subS ⟨rfl, rfl, rfl, rfl, trivial⟩, hw.pick [] (by simp)⟩) ?_
  rintro ⟨k, hk, hp⟩
  dsimp only
  refine HC.seq ?_
  refine HC.region ?_
  by_cases hkl : k < l.length
  · refine HL.val ((Val.lss rfl rfl).as (congrArg Value.bool ((lssN k l.length).trans (decide_eq_true hkl)))) (by decide) ?_
    refine HL.nil ?_
    refine HQ.next ?_
    refine HC.seq ?_
    refine HC.yes rfl ?_
    refine HC.skip ?_
    refine HQ.next ?_
    refine HC.seq ?_
    refine HC.block ?_
    refine HC.seq ?_
    refine HC.region ?_
    refine HL.val (Val.move rfl) (by decide) ?_
    refine HL.val (Val.assign rfl) (by decide) ?_
    refine HL.nil ?_
    refine HQ.next ?_
    refine HC.seq ?_
    refine HC.draw0 9 (by kernel_rfl) (by kernel_rfl) ?_
    simp only [List.take, List.drop]
    refine HV.val (Val.move rfl) (by decide) ?_
    refine HV.val (Val.move rfl) (by decide) ?_
    refine HV.val (Val.ixSliceA (s := 16) (i := k) (o + k * 16) rfl (hs.at hkl) rfl Tryd.underlying47 (by kernel_rfl) hkl rfl) (by decide) ?_
    refine HV.val (Val.load_cells (byA 16 (l.getD k 0)) rfl (fun w hw => (hs.sn szBy hw.sn rfl).row szBy hkl) Tryd.underlying30 rfl (by kernel_rfl)) (by decide) ?_
    refine HV.val (Val.call en22 (n_p (hB k hkl)) rfl) (by decide) ?_
    refine HV.val (Val.move rfl) (by decide) ?_
    refine HV.val (Val.move rfl) (by decide) ?_
    refine HV.val (Val.ixSliceA (s := 2) (i := k) (o2 + k * 2) rfl (hs2.at (hm k hkl)) rfl Tryd.underlying51 (by kernel_rfl) (hm k hkl) rfl) (by decide) ?_
    refine HV.val (Val.load_cells (wA (m.getD k 0)) rfl (fun w hw => (hs2.sn szWA hw.sn rfl).row szWA (hm k hkl)) Tryd.underlying25 rfl (by kernel_rfl)) (by decide) ?_
    refine HV.tail0 ?_
    by_cases hne : ¬ l.getD k 0 = m.getD k 0
    · refine HL.val ((Val.neqA rfl rfl (by kernel_rfl) (neqW (by_w (hB k hkl)) (hW k (hm k hkl)))).as (congrArg Value.bool ((congrArg (!·) (decide_eq_false hne) : (!decide (l.getD k 0 = m.getD k 0)) = true)))) (by decide) ?_
      refine HL.nil ?_
      refine HQ.next ?_
      refine HC.yes rfl ?_
      refine HC.seq ?_
      refine HC.region ?_
      refine HL.val (Val.assign rfl) (by decide) ?_
      refine HL.nil ?_
      refine HQ.next ?_
      refine HC.ret ?_
      refine HQ.blockRet ?_
      refine HQ.thenRet ?_
      refine HQ.thenRet ?_
      refine HQ.blockRet ?_
      refine HQ.thenRet ?_
      exact HQ.ret1 rfl rfl (pure_end (congrArg Value.bool (decide_eq_false (fun h : l = m => hne (by rw [h]))).symm))
    · refine HL.val ((Val.neqA rfl rfl (by kernel_rfl) (neqW (by_w (hB k hkl)) (hW k (hm k hkl)))).as (congrArg Value.bool ((congrArg (!·) (decide_eq_true (Classical.not_not.1 hne)) : (!decide (l.getD k 0 = m.getD k 0)) = false)))) (by decide) ?_
      refine HL.nil ?_
      refine HQ.next ?_
      refine HC.no rfl ?_
      refine HC.skip ?_
      refine HQ.blockNormal ?_
      refine HQ.next ?_
      refine HC.region ?_
      refine HL.val ((Val.addI rfl rfl).as (congrArg (Value.int .i64) (wrap1 k (by omega)))) (by decide) ?_
      refine HL.val (Val.move rfl) (by decide) ?_
      refine HL.nil ?_
      exact ⟨fun ac wc ha hw => ⟨⟨k + 1, hkl, eq_next hp (Classical.not_not.1 hne)⟩, by dsimp only; omega, ha.subS ⟨rfl, rfl, rfl, rfl, trivial⟩, hw.pick [] (by simp)⟩⟩
  · refine HL.val ((Val.lss rfl rfl).as (congrArg Value.bool ((lssN k l.length).trans (decide_eq_false hkl)))) (by decide) ?_
    refine HL.nil ?_
    refine HQ.next ?_
    refine HC.seq ?_
    refine HC.no rfl ?_
    refine HC.exit ?_
    refine HQ.thenExit ?_
    refine HQ.thenExit ?_
    refine HQ.blockExit ?_
    refine HQ.next ?_
    refine HC.seq ?_
    refine HC.region ?_
    refine HL.val (Val.assign rfl) (by decide) ?_
    refine HL.nil ?_
    refine HQ.next ?_
    refine HC.ret ?_
    exact HQ.ret1 rfl rfl (pure_end (congrArg Value.bool (decide_eq_true (list_eq hlm (fun i hi => hp i (by omega)))).symm))

set_option maxRecDepth 100000 in
theorem same_ne {l m : List Nat} {ad ad2 : Option Addr} {b o c b2 o2 c2 : Nat} {w : World} (_hs : SlA (byA 16) 16 w ad b o l) (_hB : ∀ k, k < l.length → l.getD k 0 < 256 ^ 16) (_hs2 : SlA wA 2 w ad2 b2 o2 m) (_hW : ∀ k, k < m.length → m.getD k 0 < 2 ^ 128) (_hl : l.length ≤ 100000) (hlm : ¬ l.length = m.length) :
    Calls Tryd.prog 37 #[.slice ad l.length c, .slice ad2 m.length c2] w fun e w' => e = .returned (.bool (decide (l = m))) ∧ Below w.heap.size w w' := by
  refine calls_H (args := [.slice ad l.length c, .slice ad2 m.length c2]) (noD) [] Tryd.func37 rfl (m := 27) rfl rfl (hold_nil _ _) ?_
  refine HC.seq ?_
  refine HC.region ?_
  refine HL.val (Val.assign rfl) (by decide) ?_
  refine HL.nil ?_
  refine HQ.next ?_
  refine HC.seq ?_
  refine HC.seq ?_
  refine HC.region ?_
  refine HL.val (Val.move rfl) (by decide) ?_
  refine HL.val (Val.lenS rfl rfl Tryd.underlying47) (by decide) ?_
  refine HL.val (Val.move rfl) (by decide) ?_
  refine HL.val (Val.lenS rfl rfl Tryd.underlying51) (by decide) ?_
  refine HL.val ((Val.neqI rfl rfl).as (congrArg Value.bool (neqT hlm))) (by decide) ?_
  refine HL.nil ?_
  refine HQ.next ?_
  refine HC.yes rfl ?_
  refine HC.seq ?_
  refine HC.region ?_
  refine HL.val (Val.assign rfl) (by decide) ?_
  refine HL.nil ?_
  refine HQ.next ?_
  refine HC.ret ?_
  refine HQ.thenRet ?_
  exact HQ.ret1 rfl rfl (pure_end (congrArg Value.bool (decide_eq_false (fun h : l = m => hlm (congrArg List.length h))).symm))

theorem same_any {l m : List Nat} {ad ad2 : Option Addr} {b o c b2 o2 c2 : Nat} {w : World} (hs : SlA (byA 16) 16 w ad b o l) (hB : ∀ k, k < l.length → l.getD k 0 < 256 ^ 16) (hs2 : SlA wA 2 w ad2 b2 o2 m) (hW : ∀ k, k < m.length → m.getD k 0 < 2 ^ 128) (hl : l.length ≤ 100000) :
    Calls Tryd.prog 37 #[.slice ad l.length c, .slice ad2 m.length c2] w fun e w' => e = .returned (.bool (decide (l = m))) ∧ Below w.heap.size w w' := by
  by_cases hlm : l.length = m.length
  · exact same_eq hs hB hs2 hW hl hlm
  · exact same_ne hs hB hs2 hW hl hlm
end Go.Proofs.YtgdfdkpkhjbibaaDoor
