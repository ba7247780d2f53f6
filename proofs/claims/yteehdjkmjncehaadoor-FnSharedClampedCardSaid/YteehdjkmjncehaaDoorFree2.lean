
/-
  A region that draws its order: values, one new block, stores. Arrays of five numbers.
-/
import Derived.Test.YteehdjkmjncehaaDoorFree
import Derived.Test.YteehdjkmjncehaaDoorLst
namespace Go.Proofs.YteehdjkmjncehaaDoor
open Go.RowKit
section
variable {P : Program} {ops : Array Oper} {Q : Exit → Act → World → Prop} {md : Region.Mode} {D : Nat → Bool} {w0 : World}
/-- **VALUES, THEN ONE NEW BLOCK, THEN STORES.** -/
theorem wp_region_new1 {l : List Oper} {id : Nat} {a : Act} {w : World} (n : Nat) (D : Nat → Bool) (C : Nat → Option Obj) (hm : P.follows .mixedOrders = true)
    (hc : (headB .any l.toArray n && tailB .any l.toArray n) = true) (hC : ∀ b o, C b = some o → w.heap[b]? = some o) {o1 : Oper} (h1 : l[n]? = some o1)
    {ob1 : Obj} (n1 : ∀ a, NewS P l.toArray D w o1 ob1 a)
    (h : wpVL P l.toArray D w (fun a => ∀ b1, w.heap.size ≤ b1 → C b1 = none →
      wpPL P l.toArray Q D w (l.drop (n + 1)) (a.put o1.dst (.pointer (some ⟨b1, 0, none⟩))) (updC C b1 ob1)) (l.take n) a) : (Code.region id l.toArray true).wp P Q a w := by
  simp only [Bool.and_eq_true] at hc
  obtain ⟨hc1, hc2⟩ := hc
  have hlt : n < l.length := (List.getElem?_eq_some_iff.1 h1).1
  have hlen : l.length = (l.take n).length + ((l.drop (n + 1)).length + 1) := by rw [List.length_take, List.length_drop]; omega
  have r0 := tailB_spec hc2 n (by simpa using hlt) (Nat.le_refl _)
  rw [List.size_toArray] at r0
  have ht : tailB .any l.toArray (n + 1) = true := by
    have h2 := hc2
    simp only [tailB, List.all_eq_true, List.mem_range, Bool.or_eq_true, decide_eq_true_eq, beq_iff_eq] at h2 ⊢
    intro k hk
    rcases h2 k hk with h | h
    · exact .inl (by omega)
    · exact .inr h
  refine wp_region_any hm (wpAny_of_wpX (D := D) (w0 := w) _ _ _ C w.drew ⟨SinceD.drew D w, hC⟩ ?_)
  rw [List.size_toArray, ← upTo_zero]
  have := wpX_of_list (P := P) (Q := Q) (D := D) (w0 := w) (C := C) (l := l) ((l.drop (n + 1)).length + 1) hc1 0 (l.take n) a (fun j hj => by rw [List.length_take] at hj; rw [Nat.zero_add, List.getElem?_take]; simp; omega) (by rw [List.length_take]; omega) ?_
  · rw [← hlen] at this; exact this
  · refine wpVL_mono (fun a' ha => ?_) _ _ h
    refine ⟨fun h0 => (by rw [r0] at h0; cases h0), fun i hi => ?_⟩
    rw [r0] at hi
    obtain rfl : i = n := by simpa using hi
    refine ⟨o1, by simpa using h1, .inr (.inl ⟨ob1, n1 _, fun b1 e1 e4 => ?_⟩)⟩
    rw [upTo_succ]
    exact wpX_of_puts ht (l.drop (i + 1)) (i + 1) _ _ (fun j => by rw [List.getElem?_drop]) (Nat.le_refl _) (by omega) (ha b1 e1 e4)
/-- A composite literal. -/
theorem wpVL_build {K : Act → Prop} {o : Oper} {rest : List Oper} {a : Act} (hw : Region.wanted o (yielded ops a.tmps) = true) (t : TypeId) (parts : Array (Nat × Operand)) (ho : o.op = .build t parts)
    (cells : Array Value) (hf : P.built t (parts.map fun (i, x) => (i, a.eval x)).toList = some cells) (h : wpVL P ops D w0 K rest (a.put o.dst (.agg cells))) : wpVL P ops D w0 K (o :: rest) a :=
  wpVL_value hw (fun w _ => by
    unfold execOp
    simp only [ho, Sem.run_bind, run_build w t _ cells hf, Result.andThen_ok]
    rfl) h
end
/-- Five numbers' digits in a row. -/
def w5F (a b c d e : Nat) (k : Nat) : Nat := if k < 16 then dig a k else if k < 32 then dig b (k - 16) else if k < 48 then dig c (k - 32) else if k < 64 then dig d (k - 48) else dig e (k - 64)
theorem w5_range {w : World} {blk T a b c d e : Nat} (h : DgAt w blk 80 T (w5F a b c d e)) :
    w.rangeAt blk 0 (dgL 16 (dig a)) ∧ w.rangeAt blk 16 (dgL 16 (dig b)) ∧ w.rangeAt blk 32 (dgL 16 (dig c)) ∧ w.rangeAt blk 48 (dgL 16 (dig d)) ∧ w.rangeAt blk 64 (dgL 16 (dig e)) := by
  have key : ∀ (o : Nat) (v : Nat), (∀ j, j < 16 → w5F a b c d e (o + j) = dig v j) → o + 16 ≤ 80 → w.rangeAt blk o (dgL 16 (dig v)) := fun o v hv ho j x hx => by
    have hj : j < 16 := by have := (List.getElem?_eq_some_iff.1 hx).1; rwa [dgL_length] at this
    rw [h.cell (by omega), hv j hj]
    unfold dgL at hx
    rw [List.getElem?_map, List.getElem?_range hj] at hx
    simpa using hx
  refine ⟨key 0 a (fun j hj => ?_) (by decide), key 16 b (fun j hj => ?_) (by decide), key 32 c (fun j hj => ?_) (by decide), key 48 d (fun j hj => ?_) (by decide), key 64 e (fun j hj => ?_) (by decide)⟩
  · unfold w5F; rw [if_pos (by omega), Nat.zero_add]
  · unfold w5F; rw [if_neg (by omega), if_pos (by omega)]; congr 1; omega
  · unfold w5F; rw [if_neg (by omega), if_neg (by omega), if_pos (by omega)]; congr 1; omega
  · unfold w5F; rw [if_neg (by omega), if_neg (by omega), if_neg (by omega), if_pos (by omega)]; congr 1; omega
  · unfold w5F; rw [if_neg (by omega), if_neg (by omega), if_neg (by omega), if_neg (by omega)]; congr 1; omega
theorem alloc_n (o : Oper) (ho : o.op = .alloc 25) (a : Act) (w : World) : (execOp a.eval o).run Tryd.prog w = .ok (.value (.pointer (some ⟨w.heap.size, 0, none⟩))) (w.alloc (.cells (dgA 16 (fun _ => 0)) 25 (0, 0))) := by
  unfold execOp
  rw [ho]
  rfl
end Go.Proofs.YteehdjkmjncehaaDoor
