
/-
  Arrays as values: equality of two arrays of integers, a part of an array, arrays of bytes as numbers; and how a law's arguments are opened.
-/
import Derived.Test.YteehdjkmjncehaaDoorEl
import Derived.Laws.StructEq
import Derived.Deep.MidRow
import Derived.ProofKit
import Derived.OpenShut
namespace Go.Proofs.YteehdjkmjncehaaDoor
open Go.RowKit
section
variable {P : Program}
theorem run_part_one (e : TypeId) (k : IntKind) (he : P.underlying e = some (.int k)) (cs : Array Value) (i : Nat) (v : Value) (hv : cs[i]? = some v) (w : World) : (part e cs i).run P w = .ok v w := by
  have hagg : (isAgg e).run P w = .ok false w := by
    unfold isAgg
    rw [Sem.run_bind, run_underlying he w]
    rfl
  unfold part
  rw [Sem.run_bind, hagg]
  simp [hv]
theorem run_equalIn_ints (d : Nat) (t e : TypeId) (k : IntKind) (n : Nat) (xs ys : Array Value) (f g : Nat → Int) (ht : P.underlying t = some (.array n e)) (he : P.underlying e = some (.int k)) (hs : (P.info? e).map (·.size) = some 1)
    (hx : ∀ i, i < n → xs[i]? = some (.int k (f i))) (hy : ∀ i, i < n → ys[i]? = some (.int k (g i))) (w : World) :
    (Op.equalIn (d + 2) t (.agg xs) (.agg ys)).run P w = .ok (decide (∀ i, i < n → f i = g i)) w := by
  have hsz : (sizeOf e).run P w = .ok 1 w := by
    cases hq : P.info? e with
    | none => simp [hq] at hs
    | some i => simp [hq] at hs; simp [sizeOf, typeInfo, hq, hs]
  rw [Op.equalIn]
  simp only [Sem.run_bind, run_underlying ht, Result.andThen_ok, hsz]
  rw [Std.Legacy.Range.forIn_eq_forIn_range']
  have key : ∀ (F : Nat → Option Bool × Unit → Sem (ForInStep (Option Bool × Unit))),
      (∀ i, i < n → (F i (none, ())).run P w = .ok (if f i = g i then ForInStep.yield (none, ()) else ForInStep.done (some false, ())) w) →
      ∀ (l : List Nat), (∀ i ∈ l, i < n) → (forIn l (none, ()) F).run P w = .ok (if (∀ i ∈ l, f i = g i) then (none, ()) else (some false, ())) w := by
    intro F hF l
    induction l with
    | nil => intro _; simp
    | cons a l ih =>
      intro hl
      have ha := hF a (hl a (by simp))
      have hi := ih fun i hi => hl i (by simp [hi])
      rw [List.forIn_cons, Sem.run_bind, ha]
      by_cases h : f a = g a
      · simp only [h, if_true, Result.andThen_ok]
        rw [hi]
        simp [h]
      · simp [h]
  rw [key _ ?_ _ ?_]
  · simp only [Result.andThen_ok]
    by_cases h : ∀ i, i < n → f i = g i
    · rw [if_pos (fun i hi => h i (by simp [List.mem_range'] at hi; omega))]
      simp only [Sem.run_pure]
      rw [decide_eq_true h]
    · rw [if_neg (fun hc => h fun i hi => hc i (by simp [List.mem_range']; omega))]
      simp only [Sem.run_pure]
      rw [decide_eq_false h]
  · intro i hi
    simp only [Nat.mul_one, Sem.run_bind, run_part_one e k he xs i _ (hx i hi), run_part_one e k he ys i _ (hy i hi), Result.andThen_ok, run_equalIn_int w d e k k _ _ he]
    by_cases h : f i = g i
    · simp [h]
    · simp [h]
  · intro i hi
    simp [List.mem_range'] at hi; omega

theorem run_eql_ints (t e : TypeId) (k : IntKind) (n : Nat) (xs ys : Array Value) (f g : Nat → Int) (ht : P.underlying t = some (.array n e)) (he : P.underlying e = some (.int k)) (hs : (P.info? e).map (·.size) = some 1)
    (hx : ∀ i, i < n → xs[i]? = some (.int k (f i))) (hy : ∀ i, i < n → ys[i]? = some (.int k (g i))) (w : World) :
    (binOp .eql t (.agg xs) (.agg ys)).run P w = .ok (.bool (decide (∀ i, i < n → f i = g i))) w := by
  rw [run_eql_struct]
  rw [run_equalIn_ints 9998 t e k n xs ys f g ht he hs hx hy w]
  rfl

end

/-- A number's lowest n bytes as an array's cells. -/
def byL (n v : Nat) : List Value := (List.range n).map (bv v)
/-- The same as an array. -/
abbrev byA (n v : Nat) : Array Value := (byL n v).toArray
/-- An array of n bytes as a value. -/
abbrev byV (n v : Nat) : Value := .agg (byA n v)

theorem byL_length (n v : Nat) : (byL n v).length = n := by simp [byL]
theorem byL_one (n v : Nat) : ∀ x ∈ byL n v, x.oneCell' = true := by
  intro x hx
  simp only [byL, List.mem_map] at hx
  obtain ⟨j, _, rfl⟩ := hx
  rfl
theorem one_set {cs : List Value} {i : Nat} {x : Value} (h : ∀ x ∈ cs, x.oneCell' = true) (hx : x.oneCell' = true) : ∀ y ∈ cs.set i x, y.oneCell' = true := by
  intro y hy
  rcases List.mem_or_eq_of_mem_set hy with hy | rfl
  · exact h y hy
  · exact hx
theorem below2 (w : World) (X Y : Obj) : Below w.heap.size w ((w.alloc X).alloc Y) := ((Below.refl w.heap.size w).alloc (Nat.le_refl _) _).alloc (by simp) _
theorem only_setRow (w : World) (b : Nat) (cs : Array Value) : Only b w (w.setRow b cs) := ⟨rfl, rfl, rfl, by simp, fun k _ hb => setRow_other w b k cs hb⟩
theorem byA_size (n v : Nat) : (byA n v).size = n := by simp [byL]
theorem byA_get {n v i : Nat} (h : i < n) : (byA n v)[i]? = some (bv v i) := by simp [byL, h]

theorem bytes_eq : ∀ (n a b : Nat), a < 256 ^ n → b < 256 ^ n → (∀ i, i < n → ((a / 256 ^ i % 256 : Nat) : Int) = ((b / 256 ^ i % 256 : Nat) : Int)) → a = b
  | 0, a, b, ha, hb, _ => by simp at ha hb; omega
  | n + 1, a, b, ha, hb, h => by
    have h0 := h 0 (by omega)
    have e : a / 256 = b / 256 := bytes_eq n (a / 256) (b / 256) (by rw [Nat.pow_succ] at ha; omega) (by rw [Nat.pow_succ] at hb; omega) (fun i hi => by
      have := h (i + 1) (by omega)
      rw [Nat.pow_succ, Nat.mul_comm, ← Nat.div_div_eq_div_mul, ← Nat.div_div_eq_div_mul] at this
      exact this)
    simp at h0
    omega

theorem bytes_of (n : Nat) : ∀ (f : Nat → Nat), (∀ i, i < n → f i < 256) → ∃ v, v < 256 ^ n ∧ ∀ i, i < n → v / 256 ^ i % 256 = f i := by
  induction n with
  | zero => intro f _; exact ⟨0, by simp, fun i hi => by omega⟩
  | succ n ih =>
    intro f hf
    obtain ⟨v, hv, h⟩ := ih (fun i => f (i + 1)) (fun i hi => hf (i + 1) (by omega))
    have h0 := hf 0 (by omega)
    refine ⟨f 0 + 256 * v, by rw [Nat.pow_succ]; omega, fun i hi => ?_⟩
    cases i with
    | zero => simp; omega
    | succ i =>
      rw [Nat.pow_succ, Nat.mul_comm (256 ^ i) 256, ← Nat.div_div_eq_div_mul, show (f 0 + 256 * v) / 256 = v from by omega]
      exact h i (by omega)

/-- Two arrays of bytes are equal where their numbers are. -/
theorem run_eql_by {P : Program} {t e n : Nat} {a b : Nat} (ht : P.underlying t = some (.array n e)) (he : P.underlying e = some (.int .u8)) (hs : (P.info? e).map (·.size) = some 1) (ha : a < 256 ^ n) (hb : b < 256 ^ n) (w : World) :
    (binOp .eql t (byV n a) (byV n b)).run P w = .ok (.bool (decide (a = b))) w := by
  unfold byV
  rw [run_eql_ints t e .u8 n _ _ (fun i => ((a / 256 ^ i % 256 : Nat) : Int)) (fun i => ((b / 256 ^ i % 256 : Nat) : Int)) ht he hs (fun i hi => byA_get hi) (fun i hi => byA_get hi) w]
  congr 2
  rw [Bool.eq_iff_iff]
  simp only [decide_eq_true_eq]
  exact ⟨fun h => bytes_eq n a b ha hb h, fun h => by subst h; intro i _; rfl⟩

open Go.ChangeShapes Go.WideShapes in
/-- An argument that is an array of bytes, opened. -/
theorem open_by {H : Type} {enc : TypeId × Value → H} {P : Program} {W : World} {base b0 : Nat} {sp : Nat → Bool} {held : Bool} {t e n : Nat} {v : Value} {d : DataW H} {p : List MemPlace}
    (ht : P.underlying t = some (.array n e)) (he : P.underlying e = some (.int .u8)) (hce : P.cellsOf e = 1) (hct : P.cellsOf t = n)
    (hv : Value.okWide P W .any base t v) (h : DataW.Trod enc P W b0 sp held t v d p) : ∃ x, x < 256 ^ n ∧ v = byV n x ∧ p = [] := by
  obtain ⟨cs, rfl, hsz, _⟩ : ∃ cs, v = .agg cs ∧ cs.size = P.cellsOf t ∧ Row.okWide P W .any base t cs := by
    simpa [Value.okWide, ht] using hv
  obtain ⟨fuel, hf⟩ := h
  obtain ⟨xs, m, _, hx, _, hl, hel⟩ := DataW.trod_array ht hf
  rw [hct] at hsz
  rw [hce] at hel
  have hc : ∀ i, i < n → ∃ z : Nat, z < 256 ∧ cs[i]? = some (.int .u8 (z : Int)) ∧ ∃ y, xs[i]? = some y ∧ y.2 = [] := by
    intro i hi
    obtain ⟨y, hy⟩ : ∃ y, xs[i]? = some y := ⟨xs[i]'(by omega), by simp [hl, hi]⟩
    have h1 := hel i hi
    rw [hy] at h1
    obtain ⟨z, e1, e2, wf⟩ := DataW.trod_int he h1
    have hi' : i < cs.toList.length := by simpa [hsz] using hi
    have e3 : cs[i]? = some (.int .u8 z) := by
      have : ((List.drop (i * 1) (Value.agg cs).cells.toList).take 1)[0]? = some (.int .u8 z) := by rw [e1]; rfl
      simpa [Value.cells, List.getElem?_take, List.getElem?_drop] using this
    simp only [Lit.wf, Bool.and_eq_true, decide_eq_true_eq] at wf
    have w1 : (0 : Int) ≤ z := wf.1
    have w2 : z ≤ 255 := wf.2
    refine ⟨z.toNat, by omega, by rw [Int.toNat_of_nonneg w1]; exact e3, y, hy, by rw [e2]⟩
  have hg : ∃ f : Nat → Nat, ∀ i, i < n → f i < 256 ∧ cs[i]? = some (.int .u8 (f i : Int)) := by
    refine ⟨fun i => if h : i < n then Classical.choose (hc i h) else 0, fun i hi => ?_⟩
    simp only [hi, dif_pos]
    have := Classical.choose_spec (hc i hi)
    exact ⟨this.1, this.2.1⟩
  obtain ⟨f, hf'⟩ := hg
  obtain ⟨x, hx1, hx2⟩ := bytes_of n f fun i hi => (hf' i hi).1
  refine ⟨x, hx1, ?_, ?_⟩
  · unfold byV
    congr 1
    apply Array.ext_getElem?
    intro i
    by_cases hi : i < n
    · rw [(hf' i hi).2, byA_get hi]
      unfold bv
      rw [hx2 i hi]
    · rw [Array.getElem?_eq_none (by omega), Array.getElem?_eq_none (by rw [byA_size]; omega)]
  · have hp : p = xs.flatMap (·.2) := by
      have := congrArg Prod.snd hx
      exact this
    rw [hp, List.flatMap_eq_nil_iff]
    intro y hy
    obtain ⟨i, hi, rfl⟩ := List.getElem_of_mem hy
    obtain ⟨_, _, _, y', hy', e'⟩ := hc i (by omega)
    rw [List.getElem?_eq_getElem hi] at hy'
    rw [Option.some.inj hy']; exact e'
end Go.Proofs.YteehdjkmjncehaaDoor
