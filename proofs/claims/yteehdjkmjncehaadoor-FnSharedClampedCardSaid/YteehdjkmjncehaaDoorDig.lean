
/-
  Arrays of digits as values; blocks that a call makes one after another.
-/
import Derived.Test.YteehdjkmjncehaaDoorArr
import Derived.Test.YteehdjkmjncehaaDoorSteady
namespace Go.Proofs.YteehdjkmjncehaaDoor
open Go.RowKit
/-- An element of an array's value. -/
theorem run_index_one {P : Program} {t e n i : Nat} {k k' : IntKind} {cs : Array Value} {v : Value} (ht : P.underlying t = some (.array n e)) (he : P.underlying e = some (.int k)) (hs : (P.info? e).map (·.size) = some 1) (hi : i < n) (hv : cs[i]? = some v) (w : World) :
    (Instr.index t (.agg cs) (.int k' (i : Int))).run P w = .ok v w := by
  have hsz : (sizeOf e).run P w = .ok 1 w := by
    cases hq : P.info? e with
    | none => simp [hq] at hs
    | some q => simp [hq] at hs; simp [sizeOf, typeInfo, hq, hs]
  unfold Instr.index
  have hb : (0 : Int) ≤ i ∧ (i : Int) < n := by omega
  simp only [asIntOf, Sem.run_bind, Sem.run_pure, Result.andThen_ok, run_underlying ht, hb, and_self, if_true, hsz, Nat.mul_one, Int.toNat_natCast]
  exact run_part_one e k he cs i v hv w
/-- An array of n numbers of 64 bits. -/
def dgL (n : Nat) (f : Nat → Nat) : List Value := (List.range n).map fun i => .int .u64 ((f i : Nat) : Int)
/-- The same as an array. -/
abbrev dgA (n : Nat) (f : Nat → Nat) : Array Value := (dgL n f).toArray
/-- The same as a value. -/
abbrev dgV (n : Nat) (f : Nat → Nat) : Value := .agg (dgA n f)
/-- A function turned at one place. -/
def upd (f : Nat → Nat) (k v : Nat) : Nat → Nat := fun i => if i = k then v else f i
theorem dgL_length (n : Nat) (f : Nat → Nat) : (dgL n f).length = n := by simp [dgL]
theorem dgA_size (n : Nat) (f : Nat → Nat) : (dgA n f).size = n := by simp [dgL]
theorem dgA_get {n : Nat} {f : Nat → Nat} {i : Nat} (h : i < n) : (dgA n f)[i]? = some (.int .u64 ((f i : Nat) : Int)) := by simp [dgL, h]
theorem dgA_congr {n : Nat} {f g : Nat → Nat} (h : ∀ i, i < n → f i = g i) : dgA n f = dgA n g := by
  apply Array.ext_getElem?
  intro i
  by_cases hi : i < n
  · rw [dgA_get hi, dgA_get hi, h i hi]
  · rw [Array.getElem?_eq_none (by rw [dgA_size]; omega), Array.getElem?_eq_none (by rw [dgA_size]; omega)]
theorem dgA_set {n : Nat} {f : Nat → Nat} {k v : Nat} : (dgA n f).setIfInBounds k (.int .u64 ((v : Nat) : Int)) = dgA n (upd f k v) := by
  apply Array.ext_getElem?
  intro i
  rw [Array.getElem?_setIfInBounds, dgA_size]
  by_cases hi : i < n
  · rw [dgA_get hi, dgA_get hi]
    unfold upd
    by_cases hk : k = i
    · subst hk; simp [hi]
    · rw [if_neg hk, if_neg (fun h => hk h.symm)]
  · rw [Array.getElem?_eq_none (xs := dgA n f) (by rw [dgA_size]; omega), Array.getElem?_eq_none (by rw [dgA_size]; omega)]
    by_cases hk : k = i
    · simp [hk, hi]
    · simp [hk]
theorem dgL_one (n : Nat) (f : Nat → Nat) : ∀ x ∈ dgL n f, x.oneCell' = true := by
  intro x hx
  simp only [dgL, List.mem_map] at hx
  obtain ⟨j, _, rfl⟩ := hx
  rfl
theorem dgA_one (n : Nat) (f : Nat → Nat) : (dgA n f).all (·.oneCell') = true := all_oneCell_toArray (dgL_one n f)
/-- A block of n numbers of 64 bits. -/
def DgAt (w : World) (b n T : Nat) (f : Nat → Nat) : Prop := w.heap[b]? = some (.cells (dgA n f) T (0, 0))
theorem DgAt.lt {w : World} {b n T : Nat} {f : Nat → Nat} (h : DgAt w b n T f) : b < w.heap.size := (Array.getElem?_eq_some_iff.1 h).1
theorem DgAt.cell {w : World} {b n T : Nat} {f : Nat → Nat} (h : DgAt w b n T f) {k : Nat} (hk : k < n) : w.cell? ⟨b, k, none⟩ = some (.int .u64 ((f k : Nat) : Int)) := by
  rw [cell_of_row w b k _ _ _ h]; exact dgA_get hk
theorem DgAt.frozen {w : World} {b n T : Nat} {f : Nat → Nat} (h : DgAt w b n T f) (k : Nat) : w.frozen? ⟨b, k, none⟩ = false := frozen_of_row w b k _ _ h
theorem DgAt.set {w : World} {b n T : Nat} {f : Nat → Nat} (h : DgAt w b n T f) (k v : Nat) : DgAt (w.setCell ⟨b, k, none⟩ (.int .u64 ((v : Nat) : Int))) b n T (upd f k v) := by
  have := set_step (o := k) (v := .int .u64 ((v : Nat) : Int)) h
  rw [dgA_set] at this
  exact this
theorem DgAt.set_other {w : World} {b n T : Nat} {f : Nat → Nat} (h : DgAt w b n T f) {p : Addr} (hp : b ≠ p.block) (v : Value) : DgAt (w.setCell p v) b n T f := by
  unfold DgAt; rw [Below.heap_setCell _ _ _ _ hp]; exact h
theorem DgAt.drew {w : World} {b n T : Nat} {f : Nat → Nat} (h : DgAt w b n T f) : DgAt w.drew b n T f := h
theorem DgAt.below {w w' : World} {b n T B : Nat} {f : Nat → Nat} (h : DgAt w b n T f) (hb : Below B w w') (hB : b < B) : DgAt w' b n T f := by
  unfold DgAt; rw [hb.block b hB]; exact h
theorem DgAt.congr {w : World} {b n T : Nat} {f g : Nat → Nat} (h : DgAt w b n T f) (hf : ∀ i, i < n → f i = g i) : DgAt w b n T g := by
  unfold DgAt at *; rw [h, dgA_congr hf]
/-- An array of n bytes. -/
def bfL (n : Nat) (f : Nat → Nat) : List Value := (List.range n).map fun i => .int .u8 ((f i : Nat) : Int)
/-- The same as an array. -/
abbrev bfA (n : Nat) (f : Nat → Nat) : Array Value := (bfL n f).toArray
/-- The same as a value. -/
abbrev bfV (n : Nat) (f : Nat → Nat) : Value := .agg (bfA n f)
theorem bfL_length (n : Nat) (f : Nat → Nat) : (bfL n f).length = n := by simp [bfL]
theorem bfA_size (n : Nat) (f : Nat → Nat) : (bfA n f).size = n := by simp [bfL]
theorem bfA_get {n : Nat} {f : Nat → Nat} {i : Nat} (h : i < n) : (bfA n f)[i]? = some (.int .u8 ((f i : Nat) : Int)) := by simp [bfL, h]
theorem bfA_congr {n : Nat} {f g : Nat → Nat} (h : ∀ i, i < n → f i = g i) : bfA n f = bfA n g := by
  apply Array.ext_getElem?
  intro i
  by_cases hi : i < n
  · rw [bfA_get hi, bfA_get hi, h i hi]
  · rw [Array.getElem?_eq_none (by rw [bfA_size]; omega), Array.getElem?_eq_none (by rw [bfA_size]; omega)]
theorem bfA_set {n : Nat} {f : Nat → Nat} {k v : Nat} : (bfA n f).setIfInBounds k (.int .u8 ((v : Nat) : Int)) = bfA n (upd f k v) := by
  apply Array.ext_getElem?
  intro i
  rw [Array.getElem?_setIfInBounds, bfA_size]
  by_cases hi : i < n
  · rw [bfA_get hi, bfA_get hi]
    unfold upd
    by_cases hk : k = i
    · subst hk; simp [hi]
    · rw [if_neg hk, if_neg (fun h => hk h.symm)]
  · rw [Array.getElem?_eq_none (xs := bfA n f) (by rw [bfA_size]; omega), Array.getElem?_eq_none (by rw [bfA_size]; omega)]
    by_cases hk : k = i
    · simp [hk, hi]
    · simp [hk]
theorem bfL_one (n : Nat) (f : Nat → Nat) : ∀ x ∈ bfL n f, x.oneCell' = true := by
  intro x hx
  simp only [bfL, List.mem_map] at hx
  obtain ⟨j, _, rfl⟩ := hx
  rfl
theorem bfA_one (n : Nat) (f : Nat → Nat) : (bfA n f).all (·.oneCell') = true := all_oneCell_toArray (bfL_one n f)
/-- A block of n bytes. -/
def ByAt (w : World) (b n T : Nat) (f : Nat → Nat) : Prop := w.heap[b]? = some (.cells (bfA n f) T (0, 0))
theorem ByAt.lt {w : World} {b n T : Nat} {f : Nat → Nat} (h : ByAt w b n T f) : b < w.heap.size := (Array.getElem?_eq_some_iff.1 h).1
theorem ByAt.cell {w : World} {b n T : Nat} {f : Nat → Nat} (h : ByAt w b n T f) {k : Nat} (hk : k < n) : w.cell? ⟨b, k, none⟩ = some (.int .u8 ((f k : Nat) : Int)) := by
  rw [cell_of_row w b k _ _ _ h]; exact bfA_get hk
theorem ByAt.frozen {w : World} {b n T : Nat} {f : Nat → Nat} (h : ByAt w b n T f) (k : Nat) : w.frozen? ⟨b, k, none⟩ = false := frozen_of_row w b k _ _ h
theorem ByAt.set {w : World} {b n T : Nat} {f : Nat → Nat} (h : ByAt w b n T f) (k v : Nat) : ByAt (w.setCell ⟨b, k, none⟩ (.int .u8 ((v : Nat) : Int))) b n T (upd f k v) := by
  have := set_step (o := k) (v := .int .u8 ((v : Nat) : Int)) h
  rw [bfA_set] at this
  exact this
theorem ByAt.set_other {w : World} {b n T : Nat} {f : Nat → Nat} (h : ByAt w b n T f) {p : Addr} (hp : b ≠ p.block) (v : Value) : ByAt (w.setCell p v) b n T f := by
  unfold ByAt; rw [Below.heap_setCell _ _ _ _ hp]; exact h
theorem ByAt.drew {w : World} {b n T : Nat} {f : Nat → Nat} (h : ByAt w b n T f) : ByAt w.drew b n T f := h
theorem ByAt.below {w w' : World} {b n T B : Nat} {f : Nat → Nat} (h : ByAt w b n T f) (hb : Below B w w') (hB : b < B) : ByAt w' b n T f := by
  unfold ByAt; rw [hb.block b hB]; exact h
theorem ByAt.congr {w : World} {b n T : Nat} {f g : Nat → Nat} (h : ByAt w b n T f) (hf : ∀ i, i < n → f i = g i) : ByAt w b n T g := by
  unfold ByAt at *; rw [h, bfA_congr hf]
/-- Digit i of 16 bits. -/
def dig (v i : Nat) : Nat := v / 65536 ^ i % 65536
/-- A number of 256 bits as a value. -/
abbrev nV (v : Nat) : Value := dgV 16 (dig v)
theorem dig_lt (v i : Nat) : dig v i < 65536 := Nat.mod_lt _ (by decide)
theorem new4_3 (w : World) (A B C D : Obj) : ((((w.alloc A).alloc B).alloc C).alloc D).heap[w.heap.size + 1 + 1 + 1]? = some D := by
  have h := heap_alloc_new (((w.alloc A).alloc B).alloc C) D
  have e : (((w.alloc A).alloc B).alloc C).heap.size = w.heap.size + 1 + 1 + 1 := by simp
  rwa [e] at h
theorem new3_2 (w : World) (A B C : Obj) : (((w.alloc A).alloc B).alloc C).heap[w.heap.size + 1 + 1]? = some C := by
  have h := heap_alloc_new ((w.alloc A).alloc B) C
  have e : ((w.alloc A).alloc B).heap.size = w.heap.size + 1 + 1 := by simp
  rwa [e] at h
theorem new4_2 (w : World) (A B C D : Obj) : ((((w.alloc A).alloc B).alloc C).alloc D).heap[w.heap.size + 1 + 1]? = some C := by
  rw [heap_alloc_old _ _ (by simp)]; exact new3_2 w A B C
theorem new3_1 (w : World) (A B C : Obj) : (((w.alloc A).alloc B).alloc C).heap[w.heap.size + 1]? = some B := by
  rw [heap_alloc_old _ _ (by simp)]; exact heap_alloc2_new w A B
theorem new3_0 (w : World) (A B C : Obj) : (((w.alloc A).alloc B).alloc C).heap[w.heap.size]? = some A := by
  rw [heap_alloc_old _ _ (by simp; omega)]; exact heap_alloc2_old w A B
theorem new4_1 (w : World) (A B C D : Obj) : ((((w.alloc A).alloc B).alloc C).alloc D).heap[w.heap.size + 1]? = some B := by
  rw [heap_alloc_old _ _ (by simp)]; exact new3_1 w A B C
theorem new4_0 (w : World) (A B C D : Obj) : ((((w.alloc A).alloc B).alloc C).alloc D).heap[w.heap.size]? = some A := by
  rw [heap_alloc_old _ _ (by simp; omega)]; exact new3_0 w A B C
theorem below3 (w : World) (A B C : Obj) : Below w.heap.size w (((w.alloc A).alloc B).alloc C) := (below2 w A B).alloc (by simp; omega) _
theorem below4 (w : World) (A B C D : Obj) : Below w.heap.size w ((((w.alloc A).alloc B).alloc C).alloc D) := (below3 w A B C).alloc (by simp; omega) _
theorem DgAt.drewN {w : World} {b n T q : Nat} {f : Nat → Nat} (h : DgAt w b n T f) : DgAt (w.drewN q) b n T f := h
theorem ByAt.drewN {w : World} {b n T q : Nat} {f : Nat → Nat} (h : ByAt w b n T f) : ByAt (w.drewN q) b n T f := h
theorem belowDrewN {B : Nat} {a w : World} {q : Nat} (h : Below B a w) : Below B a (w.drewN q) := ⟨h.os, h.tape, h.output, h.size, h.block⟩
theorem upd_upTo (g : Nat → Nat) (k i : Nat) : upd (fun j => if j < k then g j else 0) k (g k) i = if i < k + 1 then g i else 0 := by
  unfold upd
  by_cases h : i = k
  · subst h; simp
  · rw [if_neg h]
    by_cases h2 : i < k
    · simp only [h2, if_true]; rw [if_pos (by omega)]
    · simp only [h2, if_false]; rw [if_neg (by omega)]
theorem mod_step (a k : Nat) : a % 65536 ^ (k + 1) = a % 65536 ^ k + 65536 ^ k * dig a k := by
  rw [Nat.pow_succ, Nat.mod_mul]; rfl
/-- Byte i of a number. -/
def byt (v i : Nat) : Nat := v / 256 ^ i % 256
theorem byA_eq (n v : Nat) : byA n v = bfA n (byt v) := rfl
theorem DgAt.range {w : World} {b n T : Nat} {f : Nat → Nat} (h : DgAt w b n T f) : w.rangeAt b 0 (dgL n f) := by
  intro j v hj
  rw [cell_of_row w b (0 + j) _ _ _ h, Nat.zero_add]
  simpa using hj
theorem ByAt.range {w : World} {b n T : Nat} {f : Nat → Nat} (h : ByAt w b n T f) : w.rangeAt b 0 (bfL n f) := by
  intro j v hj
  rw [cell_of_row w b (0 + j) _ _ _ h, Nat.zero_add]
  simpa using hj
end Go.Proofs.YteehdjkmjncehaaDoor
