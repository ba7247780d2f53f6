/-
  The symbolic walk: division, loops of a few rounds, two blocks overwritten, whole numbers' small steps.
-/
import Derived.Test.YteehdjkmjncehaaH3
import Derived.LoopN
namespace Go.Proofs.Yteehdjkmjncehaa
open Go.RowKit
section
variable {P : Program} {Q : Exit → Act → World → Prop} {D : Nat → Bool} {w0 : World} {n : Nat} {σ : List (Nat × Value)} {η : List (Nat × Obj)} {I : World → Prop} {dst : Option Tmp} {ty : TypeId} {pos : String} {af : Array Edge} {gd : Option (Nat × Bool)}
theorem Val.quoN {t t2 : TypeId} {x y : Operand} {b : Int} (i m : Nat) (hx : evS σ x = some (.int .i64 (i : Int))) (hy : evS σ y = some (.int .i64 b)) (hb : b = (m : Int)) (hm : 0 < m) (hi : i < 9223372036854775808) : Val P n σ I ⟨dst, .binOp .quo t x y t2, ty, pos, af, gd⟩ (.int .i64 ((i / m : Nat) : Int)) := .bin hx hy (by rfl) (fun w => by
  subst hb
  have h1 : ((i / m : Nat) : Int) < 9223372036854775808 := by have := Nat.div_le_self i m; omega
  have h0 : ((m : Nat) : Int) ≠ 0 := by omega
  have h2 := Int.natCast_nonneg (i / m)
  rw [binOp_quo, Op.intDiv, if_neg h0]
  simp only [Int.tdiv_eq_ediv_of_nonneg (show (0 : Int) ≤ (i : Int) by omega), ← Int.natCast_ediv]
  rw [IntKind.wrap_i64, Int.emod_eq_of_lt (by omega) (by omega)]
  simp [Sem.run_pure])
theorem Val.remN {t t2 : TypeId} {x y : Operand} {b : Int} (i m : Nat) (hx : evS σ x = some (.int .i64 (i : Int))) (hy : evS σ y = some (.int .i64 b)) (hb : b = (m : Int)) (hm : 0 < m) : Val P n σ I ⟨dst, .binOp .rem t x y t2, ty, pos, af, gd⟩ (.int .i64 ((i % m : Nat) : Int)) := .bin hx hy (by rfl) (fun w => by
  subst hb
  have h0 : ((m : Nat) : Int) ≠ 0 := by omega
  rw [binOp_rem, Op.intDiv, if_neg h0]
  simp only [Int.tmod_eq_emod_of_nonneg (show (0 : Int) ≤ (i : Int) by omega), ← Int.natCast_emod]
  simp [Sem.run_pure])
/-- A loop of a few rounds, walked one behind another. -/
theorem HC.loopN {c : Code} (k : Nat) (h : HC P c (Exit.then (Code.rounds P c Q k) Q) D w0 n σ η) : HC P (.loop c) Q D w0 n σ η := ⟨fun a w ha hw => wp_loop_rounds (k + 1) (h.out a w ha hw)⟩
theorem HQ.againN {c : Code} {k : Nat} (h : HC P c (Exit.then (Code.rounds P c Q k) Q) D w0 n σ η) : HQ (Exit.then (Code.rounds P c Q (k + 1)) Q) .normal D w0 n σ η := ⟨fun a w ha hw => h.out a w ha hw⟩
/-- Two blocks are overwritten. -/
theorem Hold.put2 {w w' : World} (h : Hold D w0 η w) {i j b c : Nat} {ob oc : Obj} {cs ds fs : Array Value} {T U : TypeId} (hi : η[i]? = some (b, .cells fs T (0, 0))) (hj : η[j]? = some (c, oc)) (hn : i ≠ j) (hD : w0.heap.size ≤ b ∨ D b = true) (hE : w0.heap.size ≤ c ∨ D c = true)
    (hos : w'.os = w.os) (ht : w'.tape = w.tape) (hou : w'.output = w.output) (hsz : w.heap.size ≤ w'.heap.size) (hb : ∀ k, k < w.heap.size → k ≠ b → k ≠ c → w'.heap[k]? = w.heap[k]?) (ho : w'.heap[b]? = some (.cells cs T (0, 0))) (ho2 : w'.heap[c]? = some (.cells ds U (0, 0))) (hob : ob = .cells ds U (0, 0)) :
    Hold D w0 ((η.set i (b, .cells cs T (0, 0))).set j (c, ob)) w' := by
  subst hob
  have h1 : Hold D w0 (η.set i (b, .cells cs T (0, 0))) (w.setRow b cs) := h.put hi hD rfl rfl rfl (by simp) (fun k _ hk => setRow_other w b k cs hk) (setRow_heap w b fs cs T (0, 0) (h.at hi))
  have hj' : (η.set i (b, .cells cs T (0, 0)))[j]? = some (c, oc) := by rw [List.getElem?_set_ne hn]; exact hj
  refine h1.put hj' hE hos ht hou (by simpa using hsz) (fun k hk hne => ?_) ho2
  have hk' : k < w.heap.size := by simpa using hk
  by_cases e : k = b
  · subst e; rw [ho, setRow_heap w k fs cs T (0, 0) (h.at hi)]
  · rw [hb k hk' e hne, setRow_other w b k cs e]
end
theorem idxI_wrap {q : Nat} (h : q < 1000) : IntKind.i64.wrap ((q : Int) - 1) = ((q : Int) - 1) := by rw [IntKind.wrap_i64]; omega
theorem geqI (q : Nat) : decide ((0 : Int) ≤ (q : Int)) = true := decide_eq_true (Int.natCast_nonneg q)
theorem shrNat (x m : Nat) : (x : Int) / 2 ^ ((m : Nat) : Int).toNat = ((x / 2 ^ m : Nat) : Int) := by
  rw [Int.toNat_natCast]; norm_cast
end Go.Proofs.Yteehdjkmjncehaa
