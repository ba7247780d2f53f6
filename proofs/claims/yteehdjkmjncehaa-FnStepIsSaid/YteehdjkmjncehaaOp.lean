/-
  An argument that is five elements, opened.
-/
import Derived.Test.YteehdjkmjncehaaSb
import Derived.ProofKit
import Derived.OpenShut
namespace Go.Proofs.Yteehdjkmjncehaa
open Go.ChangeShapes Go.WideShapes Go.RowKit
theorem open_byP {H : Type} {enc : TypeId × Value → H} {P : Program} {W : World} {b0 : Nat} {sp : Nat → Bool} {held : Bool} {e u n fuel : Nat} {cs : List Value} {x : DataW H × List MemPlace} (he : P.underlying e = some (.array n u)) (hu : P.underlying u = some (.int .u8)) (hcu : P.cellsOf u = 1) (hl : cs.length = n)
    (h : DataW.trod enc P W b0 sp held fuel e cs = some x) : ∃ y, y < 256 ^ n ∧ cs = (byA n y).toList ∧ x.2 = [] := by
  obtain ⟨xs, m, _, hx, _, hlen, hel⟩ := DataW.trod_array he h
  rw [hcu] at hel
  have hc : ∀ i, i < n → ∃ z : Nat, z < 256 ∧ cs[i]? = some (.int .u8 (z : Int)) ∧ ∃ y, xs[i]? = some y ∧ y.2 = [] := by
    intro i hi
    obtain ⟨y, hy⟩ : ∃ y, xs[i]? = some y := ⟨xs[i]'(by omega), by simp [hlen, hi]⟩
    have h1 := hel i hi
    rw [hy] at h1
    obtain ⟨z, e1, e2, wf⟩ := DataW.trod_int hu h1
    have e3 : cs[i]? = some (.int .u8 z) := by
      have : ((List.drop (i * 1) cs).take 1)[0]? = some (.int .u8 z) := by rw [e1]; rfl
      simpa [List.getElem?_take, List.getElem?_drop] using this
    simp only [Lit.wf, Bool.and_eq_true, decide_eq_true_eq] at wf
    have w1 : (0 : Int) ≤ z := wf.1
    have w2 : z ≤ 255 := wf.2
    exact ⟨z.toNat, by omega, by rw [Int.toNat_of_nonneg w1]; exact e3, y, hy, by rw [e2]⟩
  have hg : ∃ f : Nat → Nat, ∀ i, i < n → f i < 256 ∧ cs[i]? = some (.int .u8 (f i : Int)) := by
    refine ⟨fun i => if h : i < n then Classical.choose (hc i h) else 0, fun i hi => ?_⟩
    simp only [hi, dif_pos]
    have := Classical.choose_spec (hc i hi)
    exact ⟨this.1, this.2.1⟩
  obtain ⟨f, hf'⟩ := hg
  obtain ⟨y, hy1, hy2⟩ := bytes_of n f fun i hi => (hf' i hi).1
  refine ⟨y, hy1, ?_, ?_⟩
  · apply List.ext_getElem?
    intro i
    by_cases hi : i < n
    · have := byA_get (n := n) (v := y) hi
      rw [(hf' i hi).2, Array.getElem?_toList, this]
      unfold bv
      rw [hy2 i hi]
    · rw [List.getElem?_eq_none (by omega), List.getElem?_eq_none (by rw [Array.length_toList, byA_size]; omega)]
  · have hp : x.2 = xs.flatMap (·.2) := by
      have := congrArg Prod.snd hx
      exact this
    rw [hp]
    refine List.flatMap_eq_nil_iff.2 fun z hz => ?_
    obtain ⟨i, hi⟩ := List.getElem?_of_mem hz
    have hil : i < n := by rw [← hlen]; exact (List.getElem?_eq_some_iff.1 hi).1
    obtain ⟨_, _, _, y', hy', e⟩ := hc i hil
    rw [hi] at hy'
    rw [Option.some.inj hy']; exact e
theorem open_e5 {H : Type} {enc : TypeId × Value → H} {P : Program} {W : World} {base b0 : Nat} {sp : Nat → Bool} {held : Bool} {t e u : Nat} {v : Value} {d : DataW H} {p : List MemPlace}
    (ht : P.underlying t = some (.array 5 e)) (he : P.underlying e = some (.array 32 u)) (hu : P.underlying u = some (.int .u8)) (hcu : P.cellsOf u = 1) (hce : P.cellsOf e = 32) (hct : P.cellsOf t = 160)
    (hv : Value.okWide P W .any base t v) (h : DataW.Trod enc P W b0 sp held t v d p) : ∃ w0 w1 w2 w3 w4, (w0 < 256 ^ 32 ∧ w1 < 256 ^ 32 ∧ w2 < 256 ^ 32 ∧ w3 < 256 ^ 32 ∧ w4 < 256 ^ 32) ∧ v = .agg (elA [w0, w1, w2, w3, w4]) ∧ p = [] := by
  obtain ⟨cs, rfl, hsz, _⟩ : ∃ cs, v = .agg cs ∧ cs.size = P.cellsOf t ∧ Row.okWide P W .any base t cs := by
    simpa [Value.okWide, ht] using hv
  obtain ⟨fuel, hf⟩ := h
  obtain ⟨xs, m, _, hx, _, hl, hel⟩ := DataW.trod_array ht hf
  rw [hct] at hsz
  rw [hce] at hel
  have hc : ∀ i, i < 5 → ∃ y, y < 256 ^ 32 ∧ (∀ j, j < 32 → cs[32 * i + j]? = some (bv y j)) ∧ ∃ z, xs[i]? = some z ∧ z.2 = [] := by
    intro i hi
    obtain ⟨z, hz⟩ : ∃ z, xs[i]? = some z := ⟨xs[i]'(by omega), by simp [hl, hi]⟩
    have h1 := hel i hi
    rw [hz] at h1
    have hcl : (Value.agg cs).cells.toList.length = 160 := by simpa [Value.cells] using hsz
    obtain ⟨y, hy, hcy, hz2⟩ := open_byP he hu hcu (by rw [List.length_take, List.length_drop, hcl]; omega) h1
    refine ⟨y, hy, fun j hj => ?_, z, hz, hz2⟩
    have h2 : ((List.drop (i * 32) (Value.agg cs).cells.toList).take 32)[j]? = (byA 32 y).toList[j]? := by rw [hcy]
    rw [List.getElem?_take, if_pos hj, List.getElem?_drop, Array.getElem?_toList (xs := byA 32 y), byA_get hj] at h2
    rw [show 32 * i + j = i * 32 + j by omega]
    simpa [Value.cells] using h2
  obtain ⟨w0, l0, c0, z0, hz0, n0⟩ := hc 0 (by decide)
  obtain ⟨w1, l1, c1, z1, hz1, n1⟩ := hc 1 (by decide)
  obtain ⟨w2, l2, c2, z2, hz2, n2⟩ := hc 2 (by decide)
  obtain ⟨w3, l3, c3, z3, hz3, n3⟩ := hc 3 (by decide)
  obtain ⟨w4, l4, c4, z4, hz4, n4⟩ := hc 4 (by decide)
  refine ⟨w0, w1, w2, w3, w4, ⟨l0, l1, l2, l3, l4⟩, ?_, ?_⟩
  · congr 1
    apply Array.ext_getElem?
    intro k
    by_cases hk : k < 160
    · obtain ⟨i, j, hi, hj, rfl⟩ : ∃ i j, i < 5 ∧ j < 32 ∧ k = 32 * i + j := ⟨k / 32, k % 32, by omega, by omega, by omega⟩
      rcases (show i = 0 ∨ i = 1 ∨ i = 2 ∨ i = 3 ∨ i = 4 by omega) with rfl | rfl | rfl | rfl | rfl
      · rw [c0 j hj, elA_at (v := w0) rfl hj]
      · rw [c1 j hj, elA_at (v := w1) rfl hj]
      · rw [c2 j hj, elA_at (v := w2) rfl hj]
      · rw [c3 j hj, elA_at (v := w3) rfl hj]
      · rw [c4 j hj, elA_at (v := w4) rfl hj]
    · rw [Array.getElem?_eq_none (by omega), Array.getElem?_eq_none (by rw [elA_size]; simp only [List.length_cons, List.length_nil]; omega)]
  · have hp : p = xs.flatMap (·.2) := by
      have := congrArg Prod.snd hx
      exact this
    rw [hp]
    refine List.flatMap_eq_nil_iff.2 fun z hz => ?_
    obtain ⟨i, hi⟩ := List.getElem?_of_mem hz
    have hil : i < 5 := by rw [← hl]; exact (List.getElem?_eq_some_iff.1 hi).1
    obtain ⟨_, _, _, y', hy', e⟩ := hc i hil
    rw [hi] at hy'
    rw [Option.some.inj hy']; exact e
end Go.Proofs.Yteehdjkmjncehaa
