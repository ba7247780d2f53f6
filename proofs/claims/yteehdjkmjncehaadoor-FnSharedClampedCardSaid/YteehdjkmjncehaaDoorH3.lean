
/-
  What single operations tell.
-/
import Derived.Test.YteehdjkmjncehaaDoorH2
namespace Go.Proofs.YteehdjkmjncehaaDoor
open Go.RowKit
section
variable {P : Program} {D : Nat → Bool} {w0 : World} {n : Nat} {σ : List (Nat × Value)} {η : List (Nat × Obj)} {I : World → Prop} {dst : Option Tmp} {ty : TypeId} {pos : String} {af : Array Edge} {gd : Option (Nat × Bool)} {o : Oper} {v : Value}
theorem Val.of_run (h : ∀ a w, Tm n σ a → I w → (execOp a.eval o).run P w = .ok (.value v) w) : Val P n σ I o v := ⟨fun a w ha hw => by rw [h a w ha hw]; exact ⟨rfl, Below.refl _ _⟩⟩
theorem Val.move {x : Operand} (hx : evS σ x = some v) : Val P n σ I ⟨dst, .move x, ty, pos, af, gd⟩ v := .of_run fun a w ha _ => by
  have := ha.eval hx
  unfold execOp; simp [this]
theorem Val.assign {x : Operand} (hx : evS σ x = some v) : Val P n σ I ⟨dst, .assign x, ty, pos, af, gd⟩ v := .of_run fun a w ha _ => by
  have := ha.eval hx
  unfold execOp; simp [this]
theorem Val.pickT {c x y : Operand} (hc : evS σ c = some (.bool true)) (hx : evS σ x = some v) : Val P n σ I ⟨dst, .pick c x y, ty, pos, af, gd⟩ v := .of_run fun a w ha _ => by
  have h1 := ha.eval hc
  have h2 := ha.eval hx
  unfold execOp; simp [h1, h2, asBool]
theorem Val.pickF {c x y : Operand} (hc : evS σ c = some (.bool false)) (hx : evS σ y = some v) : Val P n σ I ⟨dst, .pick c x y, ty, pos, af, gd⟩ v := .of_run fun a w ha _ => by
  have h1 := ha.eval hc
  have h2 := ha.eval hx
  unfold execOp; simp [h1, h2, asBool]
/-- One operand, a step that leaves the world. -/
theorem Val.run1 {op : Op} {x : Operand} {vx : Value} (F : Value → Sem Value) (hop : ∀ ρ, execOp ρ ⟨dst, op, ty, pos, af, gd⟩ = (do pure (.value (← F (ρ x))))) (hx : evS σ x = some vx) (hr : ∀ w, I w → (F vx).run P w = .ok v w) : Val P n σ I ⟨dst, op, ty, pos, af, gd⟩ v := .of_run fun a w ha hw => by
  rw [hop, ha.eval hx]
  simp [hr w hw]
theorem Val.extract {x : Operand} {k : Nat} {vs : Array Value} (hx : evS σ x = some (.tuple vs)) (hk : vs[k]? = some v) : Val P n σ I ⟨dst, .extract x k, ty, pos, af, gd⟩ v :=
  .run1 (fun u => Instr.extract u k) (fun _ => rfl) hx (fun w _ => by simp [Instr.extract, hk])
/-- A block whole. -/
theorem Val.load_row {x : Operand} {b : Nat} {cs : Array Value} {T : TypeId} {fr : Nat × Nat} {d : TypeDesc} (hx : evS σ x = some (.pointer (some ⟨b, 0, none⟩))) (hI : ∀ w, I w → w.heap[b]? = some (.cells cs T fr)) {t : TypeId}
    (hu : P.underlying t = some d) (hd : d.isRow = true) (hi : (P.info? t).map (·.size) = some cs.size) : Val P n σ I ⟨dst, .load t x, ty, pos, af, gd⟩ (.agg cs) :=
  .run1 (fun u => Instr.loadAt t u) (fun _ => rfl) hx (fun w hw => by
    have hr : w.rangeAt b 0 cs.toList := fun j v hj => by
      rw [cell_of_row w b _ cs T fr (hI w hw)]
      simpa using hj
    have := run_loadAt_mid (P := P) w b 0 t cs.toList d hr hu hd (by simpa using hi)
    simpa using this)
/-- A part of a block. -/
theorem Val.load_mid {x : Operand} {b o : Nat} {cs : Array Value} {T : TypeId} {fr : Nat × Nat} {d : TypeDesc} (hx : evS σ x = some (.pointer (some ⟨b, o, none⟩))) (hI : ∀ w, I w → w.heap[b]? = some (.cells cs T fr)) {t : TypeId} (ps : Array Value) (hp : ∀ j, j < ps.size → cs[o + j]? = ps[j]?)
    (hu : P.underlying t = some d) (hd : d.isRow = true) (hi : (P.info? t).map (·.size) = some ps.size) : Val P n σ I ⟨dst, .load t x, ty, pos, af, gd⟩ (.agg ps) :=
  .run1 (fun u => Instr.loadAt t u) (fun _ => rfl) hx (fun w hw => by
    have hr : w.rangeAt b o ps.toList := fun j v hj => by
      rw [cell_of_row w b _ cs T fr (hI w hw)]
      have hl : j < ps.size := by simpa using (List.getElem?_eq_some_iff.1 hj).1
      rw [hp j hl]
      simpa using hj
    have := run_loadAt_mid (P := P) w b o t ps.toList d hr hu hd (by simpa using hi)
    simpa using this)
/-- One cell. -/
theorem Val.load_cell {x : Operand} {b o : Nat} {cs : Array Value} {T : TypeId} {fr : Nat × Nat} {d : TypeDesc} (hx : evS σ x = some (.pointer (some ⟨b, o, none⟩))) (hI : ∀ w, I w → w.heap[b]? = some (.cells cs T fr)) {t : TypeId} (hc : cs[o]? = some v)
    (hu : P.underlying t = some d) (hd : d.isRow = false) : Val P n σ I ⟨dst, .load t x, ty, pos, af, gd⟩ v :=
  .run1 (fun u => Instr.loadAt t u) (fun _ => rfl) hx (fun w hw => by
    have hcell : w.cell? ⟨b, o, none⟩ = some v := by rw [cell_of_row w b _ cs T fr (hI w hw)]; exact hc
    have hagg : (isAgg t).run P w = .ok false w := by
      unfold isAgg
      rw [Sem.run_bind, run_underlying hu w]
      cases d <;> simp_all
    simp [Instr.loadAt, Instr.sureAddr, loadVar, Sem.run_bind, hagg, hcell])
theorem mapM_ev {a : Act} (ha : Tm n σ a) : ∀ (l : List (Nat × Operand)) (vs : List (Nat × Value)), l.mapM (fun p => (evS σ p.2).map fun u => (p.1, u)) = some vs → l.map (fun p => (p.1, a.eval p.2)) = vs
  | [], vs, h => by cases h; rfl
  | p :: l, vs, h => by
    rw [List.mapM_cons] at h
    cases hp : evS σ p.2 with
    | none => simp [hp] at h
    | some u =>
      cases hl : l.mapM (fun p => (evS σ p.2).map fun u => (p.1, u)) with
      | none => simp [hp, hl] at h
      | some us =>
        simp [hp, hl] at h
        subst h
        simp [ha.eval hp, mapM_ev ha l us hl]
theorem mapM_ev1 {a : Act} (ha : Tm n σ a) : ∀ (l : List Operand) (vs : List Value), l.mapM (evS σ) = some vs → l.map a.eval = vs
  | [], vs, h => by cases h; rfl
  | p :: l, vs, h => by
    rw [List.mapM_cons] at h
    cases hp : evS σ p with
    | none => simp [hp] at h
    | some u =>
      cases hl : l.mapM (evS σ) with
      | none => simp [hp, hl] at h
      | some us =>
        simp [hp, hl] at h
        subst h
        simp [ha.eval hp, mapM_ev1 ha l us hl]
theorem Val.build {t : TypeId} {parts : Array (Nat × Operand)} {vs : List (Nat × Value)} {cells : Array Value} (hx : parts.toList.mapM (fun p => (evS σ p.2).map fun u => (p.1, u)) = some vs) (hb : P.built t vs = some cells) : Val P n σ I ⟨dst, .build t parts, ty, pos, af, gd⟩ (.agg cells) := .of_run fun a w ha _ => by
  have h := mapM_ev ha _ _ hx
  have e : (parts.map fun (i, x) => (i, a.eval x)).toList = vs := by rw [Array.toList_map]; exact h
  unfold execOp
  simp only [Sem.run_bind, run_build w t _ cells (by rw [e]; exact hb), Result.andThen_ok]
  rfl
/-- A function that the program has. -/
def Enters (P : Program) (f : FuncId) : Prop := ∀ args w, (callFunc f args).run P w = .ok (.enter f args) w
theorem enters {f : FuncId} {fn : Func} {c : Code} (hf : P.funcs[f]? = some fn) (hn : (fn.name == "runtime.NumGoroutine") = false) (hb : fn.body = some c) : Enters P f := fun args w => by
  simp [callFunc, hf, hb]
  intro h
  rw [h] at hn; simp at hn
theorem Val.call {xs : Array Operand} {ats : Array TypeId} {f : FuncId} {args : List Value} (he : Enters P f) (hf : Pure P f args.toArray v) (hx : xs.toList.mapM (evS σ) = some args) :
    Val P n σ I ⟨dst, .call { callee := .value (.func f), args := xs, argTypes := ats }, ty, pos, af, gd⟩ v := ⟨fun a w ha _ => by
  have hm : xs.map a.eval = args.toArray := by
    apply Array.toList_inj.1
    rw [Array.toList_map]; exact mapM_ev1 ha _ _ hx
  have e : execOp a.eval ⟨dst, .call { callee := .value (.func f), args := xs, argTypes := ats }, ty, pos, af, gd⟩ = callFunc f (#[] ++ xs.map a.eval ++ #[]) := rfl
  rw [e, hm, he]
  simp only [Array.empty_append, Array.append_empty]
  exact hf w⟩
/-- A call that only reads. -/
theorem Val.calls {xs : Array Operand} {ats : Array TypeId} {f : FuncId} {args : List Value} (he : Enters P f) (hf : ∀ w, I w → Calls P f args.toArray w fun e w' => e = .returned v ∧ Below w.heap.size w w') (hx : xs.toList.mapM (evS σ) = some args) :
    Val P n σ I ⟨dst, .call { callee := .value (.func f), args := xs, argTypes := ats }, ty, pos, af, gd⟩ v := ⟨fun a w ha hw => by
  have hm : xs.map a.eval = args.toArray := by
    apply Array.toList_inj.1
    rw [Array.toList_map]; exact mapM_ev1 ha _ _ hx
  have e : execOp a.eval ⟨dst, .call { callee := .value (.func f), args := xs, argTypes := ats }, ty, pos, af, gd⟩ = callFunc f (#[] ++ xs.map a.eval ++ #[]) := rfl
  rw [e, hm, he]
  simp only [Array.empty_append, Array.append_empty]
  exact hf w hw⟩
/-- Two operands. -/
theorem Val.bin {op : BinOp} {t t2 : TypeId} {x y : Operand} {vx vy : Value} (hx : evS σ x = some vx) (hy : evS σ y = some vy) (hg : eqGuard op t x y vx vy = pure ()) (hr : ∀ w, (binOp op t vx vy).run P w = .ok v w) : Val P n σ I ⟨dst, .binOp op t x y t2, ty, pos, af, gd⟩ v := .of_run fun a w ha _ => by
  have h1 := ha.eval hx
  have h2 := ha.eval hy
  unfold execOp
  simp only [h1, h2, hg, Sem.run_bind, Sem.run_pure, Result.andThen_ok, hr w]
section
variable {t t2 : TypeId} {x y : Operand} {k k2 : IntKind} {a b : Int}
theorem Val.lss (hx : evS σ x = some (.int k a)) (hy : evS σ y = some (.int k b)) : Val P n σ I ⟨dst, .binOp .lss t x y t2, ty, pos, af, gd⟩ (.bool (decide (a < b))) := .bin hx hy (by rfl) (fun w => by rw [binOp_lss]; rfl)
theorem Val.leq (hx : evS σ x = some (.int k a)) (hy : evS σ y = some (.int k b)) : Val P n σ I ⟨dst, .binOp .leq t x y t2, ty, pos, af, gd⟩ (.bool (decide (a ≤ b))) := .bin hx hy (by rfl) (fun w => by rw [binOp_leq]; rfl)
theorem Val.gtr (hx : evS σ x = some (.int k a)) (hy : evS σ y = some (.int k b)) : Val P n σ I ⟨dst, .binOp .gtr t x y t2, ty, pos, af, gd⟩ (.bool (decide (b < a))) := .bin hx hy (by rfl) (fun w => by rw [binOp_gtr]; rfl)
theorem Val.geq (hx : evS σ x = some (.int k a)) (hy : evS σ y = some (.int k b)) : Val P n σ I ⟨dst, .binOp .geq t x y t2, ty, pos, af, gd⟩ (.bool (decide (b ≤ a))) := .bin hx hy (by rfl) (fun w => by rw [binOp_geq]; rfl)
theorem Val.eqlI (hx : evS σ x = some (.int k a)) (hy : evS σ y = some (.int k b)) : Val P n σ I ⟨dst, .binOp .eql t x y t2, ty, pos, af, gd⟩ (.bool (a == b)) := .bin hx hy (by rfl) (fun w => by rw [binOp_eql]; rfl)
theorem Val.neqI (hx : evS σ x = some (.int k a)) (hy : evS σ y = some (.int k b)) : Val P n σ I ⟨dst, .binOp .neq t x y t2, ty, pos, af, gd⟩ (.bool (a != b)) := .bin hx hy (by rfl) (fun w => by rw [binOp_neq]; rfl)
theorem Val.addI (hx : evS σ x = some (.int k a)) (hy : evS σ y = some (.int k b)) : Val P n σ I ⟨dst, .binOp .add t x y t2, ty, pos, af, gd⟩ (.int k (k.wrap (a + b))) := .bin hx hy (by rfl) (fun w => by rw [binOp_add]; rfl)
theorem Val.subI (hx : evS σ x = some (.int k a)) (hy : evS σ y = some (.int k b)) : Val P n σ I ⟨dst, .binOp .sub t x y t2, ty, pos, af, gd⟩ (.int k (k.wrap (a - b))) := .bin hx hy (by rfl) (fun w => by rw [binOp_sub]; rfl)
theorem Val.mulI (hx : evS σ x = some (.int k a)) (hy : evS σ y = some (.int k b)) : Val P n σ I ⟨dst, .binOp .mul t x y t2, ty, pos, af, gd⟩ (.int k (k.wrap (a * b))) := .bin hx hy (by rfl) (fun w => by rw [binOp_mul]; rfl)
theorem Val.shrI (hx : evS σ x = some (.int k a)) (hy : evS σ y = some (.int k2 b)) (h0 : 0 ≤ b) (h1 : b ≤ k.bits) : Val P n σ I ⟨dst, .binOp .shr t x y t2, ty, pos, af, gd⟩ (.int k (a / 2 ^ b.toNat)) := .bin hx hy (by rfl) (fun w => by rw [binOp_shr, shift_shr k k2 a b h0 h1]; rfl)
theorem Val.shlI (hx : evS σ x = some (.int k a)) (hy : evS σ y = some (.int k2 b)) (h0 : 0 ≤ b) (h1 : b ≤ k.bits) : Val P n σ I ⟨dst, .binOp .shl t x y t2, ty, pos, af, gd⟩ (.int k (k.wrap (a * 2 ^ b.toNat))) := .bin hx hy (by rfl) (fun w => by rw [binOp_shl, shift_shl k k2 a b h0 h1]; rfl)
theorem Val.andI (hx : evS σ x = some (.int k a)) (hy : evS σ y = some (.int k b)) : Val P n σ I ⟨dst, .binOp .and t x y t2, ty, pos, af, gd⟩ (.int k (bits .and k a b)) := .bin hx hy (by rfl) (fun w => by rw [binOp_and]; rfl)
theorem Val.orI (hx : evS σ x = some (.int k a)) (hy : evS σ y = some (.int k b)) : Val P n σ I ⟨dst, .binOp .or t x y t2, ty, pos, af, gd⟩ (.int k (bits .or k a b)) := .bin hx hy (by rfl) (fun w => by rw [binOp_or]; rfl)
theorem Val.xorI (hx : evS σ x = some (.int k a)) (hy : evS σ y = some (.int k b)) : Val P n σ I ⟨dst, .binOp .xor t x y t2, ty, pos, af, gd⟩ (.int k (bits .xor k a b)) := .bin hx hy (by rfl) (fun w => by rw [binOp_xor]; rfl)
theorem Val.andNotI (hx : evS σ x = some (.int k a)) (hy : evS σ y = some (.int k b)) : Val P n σ I ⟨dst, .binOp .andNot t x y t2, ty, pos, af, gd⟩ (.int k (bits .andNot k a b)) := .bin hx hy (by rfl) (fun w => by rw [binOp_andNot]; rfl)
theorem Val.negI (hx : evS σ x = some (.int k a)) : Val P n σ I ⟨dst, .unOp .neg t x, ty, pos, af, gd⟩ (.int k (k.wrap (-a))) := .of_run fun a w ha _ => by
  have h1 := ha.eval hx
  unfold execOp
  simp [h1, Op.unary, Op.intArith]
theorem Val.convI {src t : TypeId} {x : Operand} {k : IntKind} {a : Int} (hx : evS σ x = some (.int k a)) (hs : (P.underlying src).isSome = true) (hd : P.underlying t = some (.int k2)) : Val P n σ I ⟨dst, .convert src t x, ty, pos, af, gd⟩ (.int k2 (k2.wrap a)) := .of_run fun ac w ha _ => by
  have h1 := ha.eval hx
  have hk : P.intKind t = k2 := by simp [Program.intKind, hd]
  have := run_convert_int (P := P) w src t k a hs (by rw [hk]; exact hd)
  unfold execOp
  simp only [h1, Sem.run_bind, this, Result.andThen_ok, hk]
  rfl
/-- The same with the answer as one likes it. -/
theorem Val.as {o : Oper} {u : Value} (h : Val P n σ I o u) (e : u = v) : Val P n σ I o v := e ▸ h
/-- Arrays of integers. -/
theorem Val.eqlA {xs ys : Array Value} {c : Bool} (hx : evS σ x = some (.agg xs)) (hy : evS σ y = some (.agg ys)) (hg : P.eqGuardType P.depth t = false) (hb : ∀ w, (binOp .eql t (.agg xs) (.agg ys)).run P w = .ok (.bool c) w) : Val P n σ I ⟨dst, .binOp .eql t x y t2, ty, pos, af, gd⟩ (.bool c) := .of_run fun a w ha _ => by
  have h1 := ha.eval hx
  have h2 := ha.eval hy
  unfold execOp
  simp only [h1, h2, Sem.run_bind, Sem.run_pure, run_eqGuard_agg w .eql t x y xs ys hg, Result.andThen_ok, hb]
theorem Val.neqA {xs ys : Array Value} {c : Bool} (hx : evS σ x = some (.agg xs)) (hy : evS σ y = some (.agg ys)) (hg : P.eqGuardType P.depth t = false) (hb : ∀ w, (binOp .neq t (.agg xs) (.agg ys)).run P w = .ok (.bool c) w) : Val P n σ I ⟨dst, .binOp .neq t x y t2, ty, pos, af, gd⟩ (.bool c) := .of_run fun a w ha _ => by
  have h1 := ha.eval hx
  have h2 := ha.eval hy
  unfold execOp
  simp only [h1, h2, Sem.run_bind, Sem.run_pure, run_eqGuard_agg w .neq t x y xs ys hg, Result.andThen_ok, hb]
theorem Val.not {c : Bool} (hx : evS σ x = some (.bool c)) : Val P n σ I ⟨dst, .unOp .not t x, ty, pos, af, gd⟩ (.bool (!c)) := .of_run fun a w ha _ => by
  have h1 := ha.eval hx
  unfold execOp
  simp [h1, Op.unary]
/-- The address of an array's element. -/
theorem Val.ixAddr {s m i b q : Nat} {e : TypeId} (hx : evS σ x = some (.pointer (some ⟨b, q, none⟩))) (hy : evS σ y = some (.int k (i : Int))) (hu : P.underlying t = some (.array m e)) (hs : (P.info? e).map (·.size) = some s) (hi : i < m) :
    Val P n σ I ⟨dst, .indexAddr t x y, ty, pos, af, gd⟩ (.pointer (some ⟨b, q + i * s, none⟩)) := .of_run fun a w ha _ => by
  have h1 := ha.eval hx
  have h2 := ha.eval hy
  have hz : (sizeOf e).run P w = .ok s w := by
    cases hq : P.info? e with
    | none => simp [hq] at hs
    | some i => simp [hq] at hs; simp [sizeOf, typeInfo, hq, hs]
  have ha : P.arrayLen t = m := by simp [Program.arrayLen, hu]
  have hel : P.elem t = e := by simp [Program.elem, hu]
  unfold execOp
  simp only [h1, h2, Sem.run_bind, run_indexAt_array (P := P) w t ⟨b, q, none⟩ k i (by rw [ha, hel]; exact hu), ha, hel, hz]
  rw [if_pos ⟨by omega, by omega⟩]
  simp [Addr.add_lit]
theorem Val.ixAddrQ {s m i b q : Nat} {e : TypeId} (q' : Nat) (hx : evS σ x = some (.pointer (some ⟨b, q, none⟩))) (hy : evS σ y = some (.int k (i : Int))) (hu : P.underlying t = some (.array m e)) (hs : (P.info? e).map (·.size) = some s) (hi : i < m) (hq : q + i * s = q') :
    Val P n σ I ⟨dst, .indexAddr t x y, ty, pos, af, gd⟩ (.pointer (some ⟨b, q', none⟩)) := hq ▸ Val.ixAddr hx hy hu hs hi
theorem Val.nilCheck {ad : Addr} (hx : evS σ x = some (.pointer (some ad))) : Val P n σ I ⟨dst, .nilCheck x, ty, pos, af, gd⟩ (.pointer (some ad)) := .of_run fun a w ha _ => by
  have h1 := ha.eval hx
  unfold execOp
  simp [h1]
end
/-- A variable made. -/
theorem New.alloc {t : TypeId} {cs : Array Value} (hz : ∀ w, (Instr.alloc t true (.tuple #[])).run P w = .ok (.pointer (some ⟨w.heap.size, 0, none⟩)) (w.alloc (.cells cs t (0, 0)))) : New P n σ I ⟨dst, .alloc t, ty, pos, af, gd⟩ (.cells cs t (0, 0)) (fun b => .pointer (some ⟨b, 0, none⟩)) := ⟨fun a w _ _ => by
  unfold execOp
  simp [hz w]⟩
/-- An array or a struct boxed. -/
theorem New.box {t : TypeId} {x : Operand} {cs : Array Value} (hx : evS σ x = some (.agg cs)) : New P n σ I ⟨dst, .box t x, ty, pos, af, gd⟩ (.cells cs t (0, 0)) (fun b => .pointer (some ⟨b, 0, none⟩)) := ⟨fun a w ha _ => by
  have h1 := ha.eval hx
  unfold execOp
  simp [h1, Instr.box, newVar, newRow, Value.cells]⟩
/-- One cell boxed. -/
theorem New.box1 {t : TypeId} {x : Operand} {u : Value} (hx : evS σ x = some u) (h1 : u.oneCell' = true) : New P n σ I ⟨dst, .box t x, ty, pos, af, gd⟩ (.cells #[u] t (0, 0)) (fun b => .pointer (some ⟨b, 0, none⟩)) := ⟨fun a w ha _ => by
  have h2 := ha.eval hx
  have hc : u.cells = #[u] := by cases u <;> first | rfl | cases h1
  unfold execOp
  simp [h2, Instr.box, newVar, newRow, hc]⟩
/-- A block overwritten whole. -/
theorem Put.row {t T : TypeId} {x y : Operand} {b : Nat} {old cs : Array Value} (hx : evS σ x = some (.pointer (some ⟨b, 0, none⟩))) (hy : evS σ y = some (.agg cs)) (hi : (P.info? t).map (·.size) = some cs.size) (hold : old.size = cs.size) (h1 : cs.all (·.oneCell') = true) :
    Put P n σ ⟨none, .store t x y, ty, pos, af, none⟩ b (.cells old T (0, 0)) (.cells cs T (0, 0)) := ⟨fun a w ha hb => by
  have e1 := ha.eval hx
  have e2 := ha.eval hy
  refine ⟨w.setRow b cs, ?_, rfl, rfl, rfl, by simp, fun k _ hk => setRow_other w b k cs hk, setRow_heap w b old cs T (0, 0) hb⟩
  unfold execOp
  simp only [e1, e2, Instr.storeAt, Instr.sureAddr, Sem.run_bind, Sem.run_pure, Result.andThen_ok, run_storeVar_row w b T t old cs hb hi hold h1]⟩
/-- One cell of a block overwritten. -/
theorem Put.cell {t T : TypeId} {x y : Operand} {b q : Nat} {old : Array Value} {u : Value} (hx : evS σ x = some (.pointer (some ⟨b, q, none⟩))) (hy : evS σ y = some u) (hi : (P.info? t).map (·.size) = some 1) (hq : q < old.size) (h1 : u.oneCell' = true) :
    Put P n σ ⟨none, .store t x y, ty, pos, af, none⟩ b (.cells old T (0, 0)) (.cells (old.setIfInBounds q u) T (0, 0)) := ⟨fun a w ha hb => by
  have e1 := ha.eval hx
  have e2 := ha.eval hy
  have hc : u.cells = #[u] := by cases u <;> first | rfl | cases h1
  have hcell : w.cell? ⟨b, q, none⟩ = some old[q] := by rw [cell_of_row w b _ old T _ hb]; simp [hq]
  have hfz : w.frozen? ⟨b, q, none⟩ = false := frozen_of_row w b q old T hb
  refine ⟨w.setCell ⟨b, q, none⟩ u, ?_, rfl, rfl, rfl, by simp [World.setCell], fun k _ hk => Below.heap_setCell _ _ _ _ hk, heap_setCell_same w b q old T u hb⟩
  cases hq : P.info? t with
  | none => simp [hq] at hi
  | some i =>
    have hs : i.size = 1 := by simpa [hq] using hi
    unfold execOp
    simp [e1, e2, Instr.storeAt, Instr.sureAddr, storeVar, sizeOf, typeInfo, hq, hc, hs, storeCells, run_store P w _ u _ h1, Addr.add_zero', hcell, hfz]⟩
/-- A part of a block overwritten. -/
theorem Put.mid {t T : TypeId} {x y : Operand} {b q : Nat} {old cs new : Array Value} (hx : evS σ x = some (.pointer (some ⟨b, q, none⟩))) (hy : evS σ y = some (.agg cs)) (hi : (P.info? t).map (·.size) = some cs.size) (hl : q + cs.size ≤ old.size) (h1 : cs.all (·.oneCell') = true)
    (hsz : new.size = old.size) (hnew : ∀ k, k < old.size → new[k]? = if q ≤ k ∧ k < q + cs.size then cs[k - q]? else old[k]?) :
    Put P n σ ⟨none, .store t x y, ty, pos, af, none⟩ b (.cells old T (0, 0)) (.cells new T (0, 0)) := ⟨fun a w ha hb => by
  have e1 := ha.eval hx
  have e2 := ha.eval hy
  have ht : w.there b q cs.size := fun j hj => by
    refine ⟨?_, frozen_of_row w b _ old T hb⟩
    rw [cell_of_row w b _ old T _ hb]
    simp; omega
  have key : ∀ (l : List Value) (q : Nat) (w : World) (old : Array Value), w.heap[b]? = some (.cells old T (0, 0)) → q + l.length ≤ old.size → ∃ cs', (w.setCells b q l).heap[b]? = some (.cells cs' T (0, 0)) ∧ cs'.size = old.size ∧ (∀ k, k < old.size → cs'[k]? = if q ≤ k ∧ k < q + l.length then l[k - q]? else old[k]?) ∧
      (w.setCells b q l).os = w.os ∧ (w.setCells b q l).tape = w.tape ∧ (w.setCells b q l).output = w.output ∧ w.heap.size ≤ (w.setCells b q l).heap.size ∧ (∀ k, k < w.heap.size → k ≠ b → (w.setCells b q l).heap[k]? = w.heap[k]?) := by
    intro l
    induction l with
    | nil => intro q w old hb _; exact ⟨old, hb, rfl, fun k hk => by rw [if_neg (by simp only [List.length_nil]; omega)], rfl, rfl, rfl, Nat.le_refl _, fun _ _ _ => rfl⟩
    | cons u l ih =>
      intro q w old hb hl
      simp only [List.length_cons] at hl
      have hb' := heap_setCell_same w b q old T u hb
      obtain ⟨cs', h1, h2, h3, h4, h5, h6, h7, h8⟩ := ih (q + 1) (w.setCell ⟨b, q, none⟩ u) _ hb' (by rw [Array.size_setIfInBounds]; omega)
      have hsz : (w.setCell ⟨b, q, none⟩ u).heap.size = w.heap.size := by simp [World.setCell]
      refine ⟨cs', h1, by rw [h2]; simp, fun k hk => ?_, h4, h5, h6, by rw [hsz] at h7; exact h7, fun k hk hn => (h8 k (by omega) hn).trans (Below.heap_setCell _ _ _ _ hn)⟩
      rw [h3 k (by simpa using hk)]
      simp only [List.length_cons, Array.getElem?_setIfInBounds]
      by_cases h : q + 1 ≤ k ∧ k < q + 1 + l.length
      · rw [if_pos h, if_pos (by omega), show k - q = (k - (q + 1)) + 1 by omega, List.getElem?_cons_succ]
      · rw [if_neg h]
        by_cases hq : q = k
        · subst hq
          rw [if_pos (by omega)]; simp [hk]
        · rw [if_neg hq, if_neg (by omega)]
  obtain ⟨cs', k1, k2, k3, k4, k5, k6, k7, k8⟩ := key cs.toList q w old hb (by simpa using hl)
  have e : cs' = new := by
    apply Array.ext_getElem?
    intro k
    by_cases hk : k < old.size
    · rw [k3 k hk, hnew k hk]; simp
    · rw [Array.getElem?_eq_none (by omega), Array.getElem?_eq_none (by omega)]
  subst e
  refine ⟨w.setCells b q cs.toList, ?_, k4, k5, k6, k7, k8, k1⟩
  unfold execOp
  simp only [e1, e2, Instr.storeAt, Instr.sureAddr, Sem.run_bind, Sem.run_pure, Result.andThen_ok, run_storeVar_mid w b q t cs ht hi h1]⟩
/-! ### A function's beginning and end -/
/-- The slots at the beginning. -/
def startS (args : List Value) : List (Nat × Value) := args.zipIdx.map fun p => (p.2, p.1)
theorem lookup_startS (args : List Value) (k : Nat) : ∀ (d : Nat) (v : Value), ((args.zipIdx k).map fun p => (p.2, p.1)).lookup d = some v → k ≤ d ∧ args[d - k]? = some v := by
  induction args generalizing k with
  | nil => intro d v h; cases h
  | cons u l ih =>
    intro d v h
    simp only [List.zipIdx_cons, List.map_cons, List.lookup_cons] at h
    by_cases e : (d == k) = true
    · rw [e] at h
      have e' : d = k := by simpa using e
      subst e'
      exact ⟨Nat.le_refl _, by simpa using h⟩
    · have e' : (d == k) = false := by simpa using e
      rw [e'] at h
      obtain ⟨h1, h2⟩ := ih (k + 1) d v h
      exact ⟨by omega, by rw [show d - k = (d - (k + 1)) + 1 by omega, List.getElem?_cons_succ]; exact h2⟩
theorem tm_start {args : List Value} {m : Nat} (hm : m = args.length + (m - args.length)) : Tm m (startS args) ⟨args.toArray ++ Array.replicate (m - args.toArray.size) undef, []⟩ := by
  refine ⟨rfl, by simp; omega, fun d v hd => ?_⟩
  obtain ⟨_, h2⟩ := lookup_startS args 0 d v hd
  have hl : d < args.length := (List.getElem?_eq_some_iff.1 h2).1
  simp only [Nat.sub_zero] at h2
  rw [Array.getElem?_append_left (by simpa using hl)]
  simpa using h2
/-- **THE BEGINNING**: a contract from the symbolic walk. -/
theorem calls_H {f : FuncId} {fn : Func} {c : Code} {args : List Value} {w : World} {R : Ending → World → Prop} (D : Nat → Bool) (η : List (Nat × Obj)) (hf : P.funcs[f]? = some fn) (hb : fn.body = some c) {m : Nat} (hm : fn.ntmps = m) (hle : m = args.length + (m - args.length)) (hη : Hold D w η w)
    (h : HC P c (bodyPost P fn R) D w m (startS args) η) : Calls P f args.toArray w R := by
  subst hm
  exact calls_of_wp hf hb (h.out _ w (tm_start hle) hη)
theorem hold_nil (D : Nat → Bool) (w : World) : Hold D w [] w := ⟨Sn.refl _ _, (fun _ h => by cases h), List.nodup_nil⟩
/-- The end of a function whose result lies in a slot. -/
theorem HQ.ret1 {fn : Func} {t : Tmp} {R : Ending → World → Prop} (hr : fn.results = #[.tmp t]) (hv : σ.lookup t = some v) (h : ∀ w, Hold D w0 η w → R (.returned v) w) : HQ (bodyPost P fn R) .ret D w0 n σ η := ⟨fun a w ha hw =>
  bodyPost_ret (results_tmp hr _ _ _) ha.defers (by
    have := ha.held t v hv
    rw [show a.tmps.getD t undef = v by simp [this]]
    exact h w hw)⟩
theorem HQ.ret2 {fn : Func} {t u : Tmp} {v2 : Value} {R : Ending → World → Prop} (hr : fn.results = #[.tmp t, .tmp u]) (hv : σ.lookup t = some v) (hv2 : σ.lookup u = some v2) (h : ∀ w, Hold D w0 η w → R (.returned (.tuple #[v, v2])) w) : HQ (bodyPost P fn R) .ret D w0 n σ η := ⟨fun a w ha hw =>
  bodyPost_ret (results_tmp2 hr _ _ _) ha.defers (by
    have h1 := ha.held t v hv
    have h2 := ha.held u v2 hv2
    rw [show a.tmps.getD t undef = v by simp [h1], show a.tmps.getD u undef = v2 by simp [h2]]
    exact h w hw)⟩
theorem HQ.end0 {fn : Func} {R : Ending → World → Prop} (hr : fn.results = #[]) (h : ∀ w, Hold D w0 η w → R (.returned (.tuple #[])) w) : HQ (bodyPost P fn R) .normal D w0 n σ η := ⟨fun _ w ha hw => bodyPost_end (results_none hr _ _ _) ha.defers (h w hw)⟩
theorem HQ.ret0 {fn : Func} {R : Ending → World → Prop} (hr : fn.results = #[]) (h : ∀ w, Hold D w0 η w → R (.returned (.tuple #[])) w) : HQ (bodyPost P fn R) .ret D w0 n σ η := ⟨fun _ w ha hw => bodyPost_ret (results_none hr _ _ _) ha.defers (h w hw)⟩
/-- The result lies in a block. -/
theorem HQ.retc {fn : Func} {p : Tmp} {t T : TypeId} {b : Nat} {cs : Array Value} {d : TypeDesc} {R : Ending → World → Prop} (i : Nat) (hr : fn.results = #[.cell p t]) (hp : σ.lookup p = some (.pointer (some ⟨b, 0, none⟩))) (hi : η[i]? = some (b, .cells cs T (0, 0)))
    (hu : P.underlying t = some d) (hd : (match d with | .struct _ | .array _ _ => true | _ => false) = true) (hs : (P.info? t).map (·.size) = some cs.size) (h : ∀ w, Hold D w0 η w → R (.returned (.agg cs)) w) : HQ (bodyPost P fn R) .ret D w0 n σ η := ⟨fun a w ha hw =>
  bodyPost_ret (results_cell_row hr a.tmps w b T cs (0, 0) d (by simp [ha.held p _ hp]) (hw.at hi) hu hd hs) ha.defers (h w hw)⟩
/-- What a pure function's walk must end in. -/
theorem pure_end {u : Value} (h : u = v) : ∀ w, Hold noD w0 η w → (fun e w' => e = Ending.returned v ∧ Below w0.heap.size w0 w') (.returned u) w := fun _ hw => ⟨by rw [h], hw.sn.pure⟩
/-- These slots hold that, too. -/
def SubS (σ : List (Nat × Value)) : List (Nat × Value) → Prop
  | [] => True
  | (d, v) :: l => σ.lookup d = some v ∧ SubS σ l
theorem Tm.subS {σ' : List (Nat × Value)} {a : Act} (h : Tm n σ a) : SubS σ σ' → Tm n σ' a := fun hs => h.sub (by
  induction σ' with
  | nil => intro p hp; cases hp
  | cons q l ih =>
    intro p hp
    rcases List.mem_cons.1 hp with rfl | hp
    · exact hs.1
    · exact ih hs.2 p hp)
theorem HC.slots {c : Code} {Q : Exit → Act → World → Prop} (σ' : List (Nat × Value)) (hs : SubS σ σ') (h : HC P c Q D w0 n σ' η) : HC P c Q D w0 n σ η := ⟨fun a w ha hw => h.out a w (ha.subS hs) hw⟩
theorem wrap1 (k : Nat) (h : k < 4611686018427387904) : IntKind.i64.wrap ((k : Int) + 1) = ((k + 1 : Nat) : Int) := by
  rw [IntKind.wrap_i64]; omega
theorem lssN (k m : Nat) : decide ((k : Int) < (m : Int)) = decide (k < m) := by
  rw [Bool.eq_iff_iff]; simp
/-- What a callee that may turn one block leaves, in its caller's lists. -/
theorem Hold.lift1 {w w' : World} {η' : List (Nat × Obj)} {i b : Nat} {ob ob' : Obj} (hw : Hold D w0 η w) (hi : η[i]? = some (b, ob)) (hD : w0.heap.size ≤ b ∨ D b = true) (h : Hold (fun k => k == b) w η' w') (hb : w'.heap[b]? = some ob') : Hold D w0 (η.set i (b, ob')) w' :=
  hw.put hi hD h.sn.os h.sn.tape h.sn.output h.sn.size (fun k hk hn => h.sn.block k hk (by simpa using hn)) hb
end
end Go.Proofs.YteehdjkmjncehaaDoor
