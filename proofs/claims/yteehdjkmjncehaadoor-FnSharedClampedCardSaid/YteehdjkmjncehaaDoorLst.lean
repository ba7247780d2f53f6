
/-
  A plain list of operations that tell the same in every world of S; equality of elements; the constant 1.
-/
import Derived.Test.YteehdjkmjncehaaDoorImplG
import Derived.Great.BuildSlice
namespace Go.Proofs.YteehdjkmjncehaaDoor
open Go.RowKit
section
variable {P : Program} {ops : Array Oper} {Q : Exit → Act → World → Prop} {S : World → Prop}
theorem wpList_steady : ∀ (l : List Oper) (a : Act) (w : World), S w → wpSL P ops S (fun a => ∀ w, S w → Q .normal a w) l a → wpList P ops Q l a w
  | [], a, w, hS, h => h w hS
  | o :: l, a, w, hS, ⟨v, hy, h⟩ => by
    unfold wpList
    rcases hy with ⟨hw, hx⟩ | ⟨hw, rfl⟩
    · rw [if_pos hw]
      refine .inl ?_
      have hv := hx w hS
      clear hx
      unfold Oper.wp
      generalize (execOp a.eval o).run P w = r at *
      cases r with
      | ok n w' =>
        cases n <;> simp only [Oper.upon] at hv ⊢
        case value u => exact hv.1 ▸ wpList_steady l _ w' hv.2 h
        case enter f args =>
          refine hv.mono fun e w'' he => ?_
          obtain ⟨rfl, he⟩ := he
          exact wpList_steady l _ w'' he h
      | halt x w' => exact hv.elim
    · simp only [hw, Bool.false_eq_true, if_false]
      exact wpList_steady l _ w hS h
theorem wpList_since {l : List Oper} {a : Act} {w : World} (h : wpSL P ops (Since w) (fun a => ∀ w', Since w w' → Q .normal a w') l a) : wpList P ops Q l a w :=
  wpList_steady l a w (Since.refl w) h
end
theorem run_eql_same {P : Program} {t e n : Nat} {a b : Nat} (ht : P.underlying t = some (.array n e)) (he : P.underlying e = some (.int .u8)) (hs : (P.info? e).map (·.size) = some 1) (ha : a < 256 ^ n) (hab : a = b) (w : World) :
    (binOp .eql t (byV n a) (byV n b)).run P w = .ok (.bool true) w := by
  subst hab
  rw [run_eql_by ht he hs ha ha w, decide_eq_true rfl]
/-- A composite literal. -/
theorem wpSL_build {P : Program} {ops : Array Oper} {S : World → Prop} {K : Act → Prop} {o : Oper} {rest : List Oper} {a : Act} (hw : Region.wanted o (yielded ops a.tmps) = true) (t : TypeId) (parts : Array (Nat × Operand)) (ho : o.op = .build t parts)
    (cells : Array Value) (hf : P.built t (parts.map fun (i, x) => (i, a.eval x)).toList = some cells) (h : wpSL P ops S K rest (a.put o.dst (.agg cells))) : wpSL P ops S K (o :: rest) a :=
  wpSL_value hw (fun w _ => by
    unfold execOp
    simp only [ho, Sem.run_bind, run_build w t _ cells hf, Result.andThen_ok]
    rfl) h
theorem one_b32 : byA 32 1 = #[Value.int IntKind.u8 1, Value.int IntKind.u8 0, Value.int IntKind.u8 0, Value.int IntKind.u8 0, Value.int IntKind.u8 0, Value.int IntKind.u8 0, Value.int IntKind.u8 0, Value.int IntKind.u8 0, Value.int IntKind.u8 0, Value.int IntKind.u8 0, Value.int IntKind.u8 0, Value.int IntKind.u8 0, Value.int IntKind.u8 0, Value.int IntKind.u8 0, Value.int IntKind.u8 0, Value.int IntKind.u8 0, Value.int IntKind.u8 0, Value.int IntKind.u8 0, Value.int IntKind.u8 0, Value.int IntKind.u8 0, Value.int IntKind.u8 0, Value.int IntKind.u8 0, Value.int IntKind.u8 0, Value.int IntKind.u8 0, Value.int IntKind.u8 0, Value.int IntKind.u8 0, Value.int IntKind.u8 0, Value.int IntKind.u8 0, Value.int IntKind.u8 0, Value.int IntKind.u8 0, Value.int IntKind.u8 0, Value.int IntKind.u8 0] := by
  simp [byL, bv, List.range, List.range.loop]
theorem two_b32 : byA 32 2 = #[Value.int IntKind.u8 2, Value.int IntKind.u8 0, Value.int IntKind.u8 0, Value.int IntKind.u8 0, Value.int IntKind.u8 0, Value.int IntKind.u8 0, Value.int IntKind.u8 0, Value.int IntKind.u8 0, Value.int IntKind.u8 0, Value.int IntKind.u8 0, Value.int IntKind.u8 0, Value.int IntKind.u8 0, Value.int IntKind.u8 0, Value.int IntKind.u8 0, Value.int IntKind.u8 0, Value.int IntKind.u8 0, Value.int IntKind.u8 0, Value.int IntKind.u8 0, Value.int IntKind.u8 0, Value.int IntKind.u8 0, Value.int IntKind.u8 0, Value.int IntKind.u8 0, Value.int IntKind.u8 0, Value.int IntKind.u8 0, Value.int IntKind.u8 0, Value.int IntKind.u8 0, Value.int IntKind.u8 0, Value.int IntKind.u8 0, Value.int IntKind.u8 0, Value.int IntKind.u8 0, Value.int IntKind.u8 0, Value.int IntKind.u8 0] := by
  simp [byL, bv, List.range, List.range.loop]
set_option maxRecDepth 100000 in
theorem built_lit (k : Int) : Tryd.prog.built 22 [(0, .int .u8 k)] = some #[Value.int IntKind.u8 k, Value.int IntKind.u8 0, Value.int IntKind.u8 0, Value.int IntKind.u8 0, Value.int IntKind.u8 0, Value.int IntKind.u8 0, Value.int IntKind.u8 0, Value.int IntKind.u8 0, Value.int IntKind.u8 0, Value.int IntKind.u8 0, Value.int IntKind.u8 0, Value.int IntKind.u8 0, Value.int IntKind.u8 0, Value.int IntKind.u8 0, Value.int IntKind.u8 0, Value.int IntKind.u8 0, Value.int IntKind.u8 0, Value.int IntKind.u8 0, Value.int IntKind.u8 0, Value.int IntKind.u8 0, Value.int IntKind.u8 0, Value.int IntKind.u8 0, Value.int IntKind.u8 0, Value.int IntKind.u8 0, Value.int IntKind.u8 0, Value.int IntKind.u8 0, Value.int IntKind.u8 0, Value.int IntKind.u8 0, Value.int IntKind.u8 0, Value.int IntKind.u8 0, Value.int IntKind.u8 0, Value.int IntKind.u8 0] := by kernel_rfl
theorem built_1 : Tryd.prog.built 22 [(0, .int .u8 1)] = some (byA 32 1) := by rw [one_b32]; exact built_lit 1
theorem built_2 : Tryd.prog.built 22 [(0, .int .u8 2)] = some (byA 32 2) := by rw [two_b32]; exact built_lit 2
set_option maxRecDepth 100000 in
set_option maxHeartbeats 1600000 in
theorem one28 : Pure Tryd.prog 15 #[] (byV 32 1) := by
  intro w
  unfold byV
  have hu := Tryd.underlying22
  have hi : ∀ f, (Tryd.prog.info? 22).map (·.size) = some (byA 32 f).size := by intro f; rw [byA_size]; kernel_rfl
  go_enter Tryd.func15, Tryd.ntmps15
  go_wp2_with (first
    | (refine wpList_store_row (o := ⟨none, .store 22 _ _, _, _, _, _⟩) rfl 22 _ _ rfl w.heap.size (byA 32 1) rfl rfl 22 (bfA 32 (fun _ => 0)) (heap_alloc_new _ _) (hi 1) rfl (all_oneCell_toArray (byL_one _ _)) ?_))
  (try simp only [Exit.inBlock, Exit.then])
  refine bodyPost_ret (results_cell_row rfl _ _ _ _ (byA 32 1) _ _ rfl (setRow_heap _ _ (bfA 32 (fun _ => 0)) _ _ _ (heap_alloc_new w _)) hu rfl (hi 1)) rfl ?_
  exact ⟨rfl, ((Below.refl _ _).alloc (Nat.le_refl _) _).trans ((only_setRow _ _ _).below (by omega) (by simp))⟩
end Go.Proofs.YteehdjkmjncehaaDoor
