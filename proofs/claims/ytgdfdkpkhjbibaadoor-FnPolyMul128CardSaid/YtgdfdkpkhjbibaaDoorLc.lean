/-
  Small steps that the laws share (written by genlc.py).
-/
import Derived.Test.YtgdfdkpkhjbibaaDoorLb2
namespace Go.Proofs.YtgdfdkpkhjbibaaDoor
open Go.ChangeShapes Go.WideShapes Go.ChangeAt Go.WideElems Go.RowKit
section
variable {P : Program} {n : Nat} {σ : List (Nat × Value)} {I : World → Prop} {dst : Option Tmp} {ty : TypeId} {pos : String} {af : Array Edge} {gd : Option (Nat × Bool)} {v : Value} {t t2 : TypeId} {x y : Operand}
theorem Val.field1 {k : Nat} {cs : Array Value} (hx : evS σ x = some (.agg cs)) (h : ∀ w, (Instr.field t (.agg cs) k).run P w = .ok v w) : Val P n σ I ⟨dst, .field t x k, ty, pos, af, gd⟩ v :=
  .run1 (fun u => Instr.field t u k) (fun _ => rfl) hx (fun w _ => h w)
theorem run_equalIn_bool (w : World) (d : Nat) (a b : Bool) (h : P.underlying t = some .bool) : (Op.equalIn (d + 1) t (.bool a) (.bool b)).run P w = .ok (a == b) w := by
  simp [Op.equalIn, run_underlying h]
theorem run_equal_bool (w : World) (a b : Bool) (h : P.underlying t = some .bool) : (Op.equal t (.bool a) (.bool b)).run P w = .ok (a == b) w := by
  unfold Op.equal Op.maxDepth
  exact run_equalIn_bool w 9999 a b h
theorem Val.eqlBool {a b : Bool} (hx : evS σ x = some (.bool a)) (hy : evS σ y = some (.bool b)) (hu : P.underlying t = some .bool) : Val P n σ I ⟨dst, .binOp .eql t x y t2, ty, pos, af, gd⟩ (.bool (a == b)) := .bin hx hy (by rfl) (fun w => by simp only [binOp]; simp [run_equal_bool w a b hu])
theorem Val.neqBool {a b : Bool} (hx : evS σ x = some (.bool a)) (hy : evS σ y = some (.bool b)) (hu : P.underlying t = some .bool) : Val P n σ I ⟨dst, .binOp .neq t x y t2, ty, pos, af, gd⟩ (.bool (a != b)) := .bin hx hy (by rfl) (fun w => by simp only [binOp]; simp [run_equal_bool w a b hu, bne])
end
set_option maxRecDepth 100000 in
theorem fieldA0 (w : World) : (Instr.field 27 (.agg fA) 0).run Tryd.prog w = .ok (.agg (wA pf)) w := by rfl
set_option maxRecDepth 100000 in
theorem fieldA1 (w : World) : (Instr.field 27 (.agg fA) 1).run Tryd.prog w = .ok (.int .i64 128) w := by rfl
set_option maxRecDepth 100000 in
theorem fieldA2 (w : World) : (Instr.field 27 (.agg fA) 2).run Tryd.prog w = .ok (.int .i64 66) w := by rfl
theorem built_by1 : Tryd.prog.built 30 [(0, .int .u8 1)] = some (byA 16 1) := by kernel_rfl
theorem built_wx (x : Nat) (hx : x < 18446744073709551616) : Tryd.prog.built 25 [(0, .int .u64 (x : Int)), (1, .int .u64 0)] = some (wA x) := by
  have h := built_w x 0
  have e : wA x = #[.int .u64 (x : Int), .int .u64 ((0 : Nat) : Int)] := by
    unfold wA; rw [Nat.mod_eq_of_lt hx, Nat.div_eq_of_lt hx]
  rw [e]; exact h
theorem built_wl (x : Nat) {X : Int} (hx : x < 18446744073709551616) (hX : X = (x : Int) := by rfl) : Tryd.prog.built 25 [(0, .int .u64 X), (1, .int .u64 0)] = some (wA x) := by subst hX; exact built_wx x hx
theorem x_w {x : Nat} (h : x < 18446744073709551616) : x < 2 ^ 128 := Nat.lt_trans h (by decide)
theorem x_b {x : Nat} (h : x < 18446744073709551616) : x < 2 ^ 128 := Nat.lt_trans h (by decide)
theorem neqB {a b : Nat} (ha : a < 256 ^ 16) (hb : b < 256 ^ 16) : ∀ w, (binOp .neq 30 (.agg (byA 16 a)) (.agg (byA 16 b))).run Tryd.prog w = .ok (.bool (!decide (a = b))) w := neq_of_eql ⟨_, rfl⟩ ⟨_, rfl⟩ (eqlB ha hb)
theorem nat_of_u64 {z : Int} (h : (Lit.int .u64 z).wf = true) : ∃ x : Nat, z = (x : Int) ∧ x < 18446744073709551616 := by
  simp only [Lit.wf, Bool.and_eq_true, decide_eq_true_eq] at h
  have h1 : (0 : Int) ≤ z := h.1
  have h2 : z ≤ 18446744073709551615 := h.2
  exact ⟨z.toNat, (Int.toNat_of_nonneg h1).symm, by omega⟩
open Go.WideElems in
theorem trod_lt {H : Type} {enc : TypeId × Value → H} {P : Program} {t : TypeId} {W : World} {v : Value} {d : DataW H} {ps : List MemPlace} (h : DataW.Trod enc P W 0 (fun _ => true) true t v d ps) :
    ∀ x ∈ ps, x.block < W.heap.size := by
  obtain ⟨n, h⟩ := h
  exact DataW.trod_lt n _ _ _ h
end Go.Proofs.YtgdfdkpkhjbibaaDoor
