/-
  The symbolic walk: cells known one by one, answers that the model gives by itself, parts of an array's value, truth values.
-/
import Derived.Test.YteehdjkmjncehaaHS
import Derived.Test.YteehdjkmjncehaaHQ
namespace Go.Proofs.Yteehdjkmjncehaa
open Go.RowKit
section
variable {P : Program} {n : Nat} {σ : List (Nat × Value)} {η : List (Nat × Obj)} {I : World → Prop} {dst : Option Tmp} {ty : TypeId} {pos : String} {af : Array Edge} {gd : Option (Nat × Bool)} {xs : Array Operand} {ats : Array TypeId} {v : Value}
/-- A call that the model answers by itself. -/
theorem Val.callV {f : FuncId} {args : List Value} (he : ∀ w, (callFunc f args.toArray).run P w = .ok (.value v) w) (hx : xs.toList.mapM (evS σ) = some args) :
    Val P n σ I ⟨dst, .call { callee := .value (.func f), args := xs, argTypes := ats }, ty, pos, af, gd⟩ v := .of_run fun a w ha _ => by
  have hm : xs.map a.eval = args.toArray := by
    apply Array.toList_inj.1
    rw [Array.toList_map]; exact mapM_ev1 ha _ _ hx
  have e : execOp a.eval ⟨dst, .call { callee := .value (.func f), args := xs, argTypes := ats }, ty, pos, af, gd⟩ = callFunc f (#[] ++ xs.map a.eval ++ #[]) := rfl
  rw [e, hm]
  simp only [Array.empty_append, Array.append_empty]
  exact he w
/-- The same cells as at the beginning. -/
theorem Sn.cell {D : Nat → Bool} {w0 w : World} (h : Sn D w0 w) {b o : Nat} {u : Value} (hc : w0.cell? ⟨b, o, none⟩ = some u) (hd : D b = false) : w.cell? ⟨b, o, none⟩ = some u := by
  have hb := World.block_lt_of_cell? w0 ⟨b, o, none⟩ hc
  have := h.block b hb hd
  simp only [World.cell?] at hc ⊢
  rw [this]; exact hc
/-- A row, its cells known one by one. -/
theorem Val.load_cells {t : TypeId} {x : Operand} {b o : Nat} {d : TypeDesc} (cs : Array Value) (hx : evS σ x = some (.pointer (some ⟨b, o, none⟩))) (hI : ∀ w, I w → ∀ j, j < cs.size → w.cell? ⟨b, o + j, none⟩ = cs[j]?) (hu : P.underlying t = some d) (hd : d.isRow = true) (hi : (P.info? t).map (·.size) = some cs.size) :
    Val P n σ I ⟨dst, .load t x, ty, pos, af, gd⟩ (.agg cs) :=
  .run1 (fun u => Instr.loadAt t u) (fun _ => rfl) hx (fun w hw => by
    have hr : w.rangeAt b o cs.toList := fun j v hj => by
      have hl : j < cs.size := by simpa using (List.getElem?_eq_some_iff.1 hj).1
      rw [hI w hw j hl]; simpa using hj
    have := run_loadAt_mid (P := P) w b o t cs.toList d hr hu hd (by simpa using hi)
    simpa using this)
/-- One cell, known by itself. -/
theorem Val.load_one {t : TypeId} {x : Operand} {ad : Addr} {d : TypeDesc} (hx : evS σ x = some (.pointer (some ad))) (hI : ∀ w, I w → w.cell? ad = some v) (hu : P.underlying t = some d) (hd : d.isRow = false) : Val P n σ I ⟨dst, .load t x, ty, pos, af, gd⟩ v :=
  .run1 (fun u => Instr.loadAt t u) (fun _ => rfl) hx (fun w hw => by
    have hagg : (isAgg t).run P w = .ok false w := by
      unfold isAgg
      rw [Sem.run_bind, run_underlying hu w]
      cases d <;> simp_all
    simp [Instr.loadAt, Instr.sureAddr, loadVar, Sem.run_bind, hagg, hI w hw])
/-- A call by a contract on blocks, its answer and its blocks said. -/
theorem HL.callD {ops : Array Oper} {Q : Exit → Act → World → Prop} {D : Nat → Bool} {w0 : World} {rest : List Oper} {d : Nat} {f : FuncId} {args : List Value} {η' : List (Nat × Obj)} (he : ∀ args w, (callFunc f args).run P w = .ok (.enter f args) w) (hx : xs.toList.mapM (evS σ) = some args)
    (hc : ∀ w, Hold D w0 η w → Calls P f args.toArray w fun e w' => e = .returned v ∧ Hold D w0 η' w') (hd : d < n) (h : HL P ops Q D w0 n rest ((d, v) :: σ) η') : HL P ops Q D w0 n (⟨some d, .call { callee := .value (.func f), args := xs, argTypes := ats }, ty, pos, af, none⟩ :: rest) σ η :=
  HL.call (α := Unit) (R := fun _ => True) (v := fun _ => v) (η' := fun _ => η') he hx (fun w hw => (hc w hw).mono fun _ _ hh => ⟨(), trivial, hh⟩) hd fun _ _ => h
/-- A callee's blocks in its caller's lists: it may turn one. -/
theorem lift_one {D : Nat → Bool} {w0 w : World} {f : FuncId} {args : Array Value} {i b : Nat} {ob ob' : Obj} (hw : Hold D w0 η w) (hi : η[i]? = some (b, ob)) (hD : w0.heap.size ≤ b ∨ D b = true)
    (hc : Calls P f args w fun e w' => e = .returned v ∧ Hold (fun k => k == b) w [(b, ob')] w') : Calls P f args w fun e w' => e = .returned v ∧ Hold D w0 (η.set i (b, ob')) w' :=
  hc.mono fun _ _ hh => ⟨hh.1, hw.lift1 hi hD hh.2 (hh.2.at (i := 0) rfl)⟩
section
variable {t t2 : TypeId} {x y : Operand}
/-- An element of an array's value: a row. -/
theorem Val.indexN {k : IntKind} {m i s : Nat} {e : TypeId} {d : TypeDesc} {cs : Array Value} (ps : Array Value) (hx : evS σ x = some (.agg cs)) (hy : evS σ y = some (.int k (i : Int))) (hu : P.underlying t = some (.array m e)) (he : P.underlying e = some d) (hd : d.isRow = true) (hs : (P.info? e).map (·.size) = some s) (hi : i < m) (hv : cs.extract (i * s) (i * s + s) = ps) :
    Val P n σ I ⟨dst, .index t x y, ty, pos, af, gd⟩ (.agg ps) := .of_run fun a w ha _ => by
  have h1 := ha.eval hx
  have h2 := ha.eval hy
  have hel : P.elem t = e := by simp [Program.elem, hu]
  have hagg : (isAgg e).run P w = .ok true w := by
    unfold isAgg
    rw [Sem.run_bind, run_underlying he w]
    cases d <;> simp_all
  have hp : (part e cs (i * s)).run P w = .ok (.agg ps) w := by
    unfold part
    simp [hagg, size_of hs w, hv]
  unfold execOp
  simp [h1, h2, Instr.index, run_underlying hu w, asIntOf, hi, size_of hs w, hp]
theorem run_equalIn_bool (w : World) (d : Nat) (a b : Bool) (h : P.underlying t = some .bool) : (Op.equalIn (d + 1) t (.bool a) (.bool b)).run P w = .ok (a == b) w := by
  simp [Op.equalIn, run_underlying h]
theorem run_equal_bool (w : World) (a b : Bool) (h : P.underlying t = some .bool) : (Op.equal t (.bool a) (.bool b)).run P w = .ok (a == b) w := by
  unfold Op.equal Op.maxDepth
  exact run_equalIn_bool w 9999 a b h
theorem Val.eqlBool {a b : Bool} (hx : evS σ x = some (.bool a)) (hy : evS σ y = some (.bool b)) (hu : P.underlying t = some .bool) : Val P n σ I ⟨dst, .binOp .eql t x y t2, ty, pos, af, gd⟩ (.bool (a == b)) := .bin hx hy (by rfl) (fun w => by simp only [binOp]; simp [run_equal_bool w a b hu])
theorem Val.neqBool {a b : Bool} (hx : evS σ x = some (.bool a)) (hy : evS σ y = some (.bool b)) (hu : P.underlying t = some .bool) : Val P n σ I ⟨dst, .binOp .neq t x y t2, ty, pos, af, gd⟩ (.bool (a != b)) := .bin hx hy (by rfl) (fun w => by simp only [binOp]; simp [run_equal_bool w a b hu, bne])
end
end
end Go.Proofs.Yteehdjkmjncehaa
