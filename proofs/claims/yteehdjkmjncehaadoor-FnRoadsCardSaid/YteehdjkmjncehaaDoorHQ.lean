/-
  The symbolic walk: slices.
  The symbolic walk: division, loops of a few rounds, two blocks overwritten, whole numbers' small steps.
  The symbolic walk: cells known one by one, answers that the model gives by itself, parts of an array's value, truth values.
  The symbolic walk: results of two kinds.
  The symbolic walk: a region that draws its order, in which a value may come behind a store: values, two new blocks, a store into each.
  The symbolic walk: strings of bytes, errors, slices made, copies into slices.
-/
import Derived.Test.YteehdjkmjncehaaDoorH3
import Derived.Laws.CopyOwn
import Derived.LoopN
import Derived.Test.YteehdjkmjncehaaDoorFree
import Derived.Laws.BytesArg
import Derived.Laws.MakeOwn
namespace Go.Proofs.YteehdjkmjncehaaDoor
open Go.RowKit
section
variable {P : Program} {ops : Array Oper} {Q : Exit → Act → World → Prop} {D : Nat → Bool} {w0 : World} {n : Nat} {σ : List (Nat × Value)} {η : List (Nat × Obj)} {I : World → Prop} {dst : Option Tmp} {ty : TypeId} {pos : String} {af : Array Edge} {gd : Option (Nat × Bool)} {rest : List Oper} {v : Value} {t e : TypeId}
theorem size_of {e : TypeId} {s : Nat} (hs : (P.info? e).map (·.size) = some s) (w : World) : (sizeOf e).run P w = .ok s w := by
  cases hq : P.info? e with
  | none => simp [hq] at hs
  | some i => simp [hq] at hs; simp [sizeOf, typeInfo, hq, hs]
/-- An array's variable as a slice, whole. -/
theorem Val.sliceAll {x : Operand} {m s b q : Nat} (hx : evS σ x = some (.pointer (some ⟨b, q, none⟩))) (hu : P.underlying t = some (.array m e)) (hs : (P.info? e).map (·.size) = some s) : Val P n σ I ⟨dst, .slice t x none none none, ty, pos, af, gd⟩ (.slice (some ⟨b, q, none⟩) m m) := .of_run fun a w ha _ => by
  have h1 := ha.eval hx
  have ha : P.arrayLen t = m := by simp [Program.arrayLen, hu]
  have he : P.elem t = e := by simp [Program.elem, hu]
  unfold execOp
  simp only [h1, Option.map_none, Sem.run_bind, run_sliceAt_array_all (P := P) w t ⟨b, q, none⟩ (by rw [ha, he]; exact hu), he, size_of hs w, Result.andThen_ok, slicedAt, ha]
  by_cases hm : m = 0
  · subst hm; simp
  · simp [hm, Addr.add_lit]
/-- .. up to a number. -/
theorem Val.sliceTo {x y : Operand} {m s b q h : Nat} {k : IntKind} (hx : evS σ x = some (.pointer (some ⟨b, q, none⟩))) (hy : evS σ y = some (.int k (h : Int))) (hu : P.underlying t = some (.array m e)) (hs : (P.info? e).map (·.size) = some s) (hh : h ≤ m) : Val P n σ I ⟨dst, .slice t x none (some y) none, ty, pos, af, gd⟩ (.slice (some ⟨b, q, none⟩) h m) := .of_run fun a w ha _ => by
  have h1 := ha.eval hx
  have h2 := ha.eval hy
  have ha : P.arrayLen t = m := by simp [Program.arrayLen, hu]
  have he : P.elem t = e := by simp [Program.elem, hu]
  unfold execOp
  simp only [h1, Option.map_none, Option.map_some, h2, Sem.run_bind, run_sliceAt_array_h (P := P) w t ⟨b, q, none⟩ (by rw [ha, he]; exact hu) k h (by omega) (by rw [ha]; omega), he, size_of hs w, Result.andThen_ok, slicedAt, ha]
  by_cases hm : m = 0
  · subst hm; simp
  · simp [hm, Addr.add_lit]
/-- .. from a number below its length. -/
theorem Val.sliceFrom {x y : Operand} {m s b q l : Nat} {k : IntKind} (q' : Nat) (hx : evS σ x = some (.pointer (some ⟨b, q, none⟩))) (hy : evS σ y = some (.int k (l : Int))) (hu : P.underlying t = some (.array m e)) (hs : (P.info? e).map (·.size) = some s) (hl : l < m) (hq : q + l * s = q') : Val P n σ I ⟨dst, .slice t x (some y) none none, ty, pos, af, gd⟩ (.slice (some ⟨b, q', none⟩) (m - l) (m - l)) := .of_run fun a w ha _ => by
  subst hq
  have h1 := ha.eval hx
  have h2 := ha.eval hy
  have ha : P.arrayLen t = m := by simp [Program.arrayLen, hu]
  have he : P.elem t = e := by simp [Program.elem, hu]
  unfold execOp
  simp only [h1, Option.map_none, Option.map_some, h2, Sem.run_bind, run_sliceAt_array_l (P := P) w t ⟨b, q, none⟩ (by rw [ha, he]; exact hu) k l (by omega) (by rw [ha]; omega), he, size_of hs w, Result.andThen_ok, slicedAt, ha, Int.toNat_natCast]
  rw [if_neg (by omega)]
  simp [Addr.add_lit]
/-- A slice's length. -/
theorem Val.lenS {x : Operand} {ad : Option Addr} {l c : Nat} {ats : Array TypeId} (hx : evS σ x = some (.slice ad l c)) (ha : ats = #[t]) (hu : P.underlying t = some (.slice e)) : Val P n σ I ⟨dst, .call { callee := .builtin .len, args := #[x], argTypes := ats }, ty, pos, af, gd⟩ (.int .i64 (l : Int)) := .of_run fun a w hac _ => by
  subst ha
  have h1 := hac.eval hx
  have he : P.elem t = e := by simp [Program.elem, hu]
  have := run_len_slice (P := P) w t ty ad l c (by rw [he]; exact hu)
  simp [execOp, resolve, invoke, builtin, h1, this, goInt]
/-- The array behind a slice. -/
theorem Val.arrPtr {x : Operand} {ad : Option Addr} {l c m : Nat} (hx : evS σ x = some (.slice ad l c)) (hu : P.underlying t = some (.array m e)) (hl : m ≤ l) : Val P n σ I ⟨dst, .sliceToArrayPointer t x, ty, pos, af, gd⟩ (.pointer ad) :=
  .run1 (fun u => Instr.arrayAt t u) (fun _ => rfl) hx (fun w _ => by
    simp [Instr.arrayAt, run_underlying hu w]; omega)
/-- The address of a slice's element. -/
theorem Val.ixSlice {x y : Operand} {k : IntKind} {s b q l c i : Nat} (q' : Nat) (hx : evS σ x = some (.slice (some ⟨b, q, none⟩) l c)) (hy : evS σ y = some (.int k (i : Int))) (hu : P.underlying t = some (.slice e)) (hs : (P.info? e).map (·.size) = some s) (hi : i < l) (hq : q + i * s = q') :
    Val P n σ I ⟨dst, .indexAddr t x y, ty, pos, af, gd⟩ (.pointer (some ⟨b, q', none⟩)) := .of_run fun a w ha _ => by
  subst hq
  have h1 := ha.eval hx
  have h2 := ha.eval hy
  have he : P.elem t = e := by simp [Program.elem, hu]
  unfold execOp
  simp only [h1, h2, Sem.run_bind, run_indexAt_slice (P := P) w t ⟨b, q, none⟩ l c k i (by rw [he]; exact hu), he, size_of hs w]
  rw [if_pos ⟨by omega, by omega⟩]
  simp [Addr.add_lit]
/-- An element of an array's value: one cell. -/
theorem Val.index1 {x y : Operand} {k k' : IntKind} {m i : Nat} {cs : Array Value} (hx : evS σ x = some (.agg cs)) (hy : evS σ y = some (.int k (i : Int))) (hu : P.underlying t = some (.array m e)) (he : P.underlying e = some (.int k')) (hs : (P.info? e).map (·.size) = some 1) (hi : i < m) (hv : cs[i]? = some v) :
    Val P n σ I ⟨dst, .index t x y, ty, pos, af, gd⟩ v := .of_run fun a w ha _ => by
  have h1 := ha.eval hx
  have h2 := ha.eval hy
  have hel : P.elem t = e := by simp [Program.elem, hu]
  have hp : (part e cs i).run P w = .ok v w := run_part_one e k' he cs i v hv w
  unfold execOp
  simp [h1, h2, Instr.index, run_underlying hu w, asIntOf, hi, size_of hs w, hp]
/-- The copy of a whole array's bytes. -/
theorem HL.copyAll {x y : Operand} {d : Nat} {dT sT : TypeId} (i : Nat) {g c b q c' m : Nat} {cur : Array Value} {T : TypeId} (cs : Array Value) (hx : evS σ x = some (.slice (some ⟨g, 0, none⟩) m c)) (hy : evS σ y = some (.slice (some ⟨b, q, none⟩) m c')) (hu : P.underlying dT = some (.slice e)) (hs : (P.info? e).map (·.size) = some 1)
    (hi : η[i]? = some (g, .cells cur T (0, 0))) (h1 : cur.size = m) (h2 : cs.size = m) (hsrc : ∀ w, Hold D w0 η w → ∀ j v, cs[j]? = some v → w.cell? ⟨b, q + j, none⟩ = some v) (ho : ∀ v ∈ cs, v.oneCell' = true) (hD : w0.heap.size ≤ g ∨ D g = true) (hd : d < n)
    (h : HL P ops Q D w0 n rest ((d, .int .i64 (m : Int)) :: σ) (η.set i (g, .cells cs T (0, 0)))) : HL P ops Q D w0 n (⟨some d, .call { callee := .builtin .copy, args := #[x, y], argTypes := #[dT, sT] }, ty, pos, af, none⟩ :: rest) σ η := ⟨fun a w ha hw => by
  have hg := hw.at hi
  refine wpList_copy_own rfl x y dT sT rfl e hu hs g 0 m c ⟨b, q, none⟩ m c' (ha.eval hx) (ha.eval hy) cur T hg cs.toList (by simp [h2]) (fun j v hj => by
    rw [Addr.add_mid]; exact hsrc w hw j v (by simpa using hj)) (by simp; omega) (fun v hv => ho v (by simpa using hv)) ?_
  have e : (List.take 0 cur.toList ++ (cs.toList ++ List.drop (0 + cs.toList.length) cur.toList)).toArray = cs := by
    apply Array.toList_inj.1
    have hl : cur.toList.length ≤ 0 + cs.toList.length := by simp; omega
    rw [List.drop_eq_nil_of_le hl]
    simp
  rw [e]
  have hlen : goInt cs.toList.length = .int .i64 (m : Int) := by simp [goInt, h2]
  rw [hlen]
  exact h.out _ _ (ha.put hd _) (hw.put hi hD rfl rfl rfl (by simp) (fun k _ hk => setRow_other w g k cs hk) (setRow_heap w g cur cs T (0, 0) hg))⟩
end
end Go.Proofs.YteehdjkmjncehaaDoor

namespace Go.Proofs.YteehdjkmjncehaaDoor
open Go.RowKit
section
variable {P : Program} {Q : Exit → Act → World → Prop} {D : Nat → Bool} {w0 : World} {n : Nat} {σ : List (Nat × Value)} {η : List (Nat × Obj)} {I : World → Prop} {dst : Option Tmp} {ty : TypeId} {pos : String} {af : Array Edge} {gd : Option (Nat × Bool)}
theorem Val.quoN {t t2 : TypeId} {x y : Operand} {b : Int} (i m : Nat) (hx : evS σ x = some (.int .i64 (i : Int))) (hy : evS σ y = some (.int .i64 b)) (hb : b = (m : Int)) (hm : 0 < m) (hi : i < 9223372036854775808) : Val P n σ I ⟨dst, .binOp .quo t x y t2, ty, pos, af, gd⟩ (.int .i64 ((i / m : Nat) : Int)) := .bin hx hy (by rfl) (fun w => by
  subst hb
  have h1 : ((i / m : Nat) : Int) < 9223372036854775808 := by have := Nat.div_le_self i m; omega
  have h0 : ((m : Nat) : Int) ≠ 0 := by omega
  have h2 := Int.natCast_nonneg (i / m)
  rw [binOp_quo, Op.intDiv, if_neg h0]
  simp only [Int.tdiv_eq_ediv_of_nonneg (show (0 : Int) ≤ (i : Int) by omega), ← Int.natCast_ediv]
  rw [IntKind.wrap_i64, Int.emod_eq_of_lt (by omega) (by omega)]
  simp [Sem.run_pure])
theorem Val.remN {t t2 : TypeId} {x y : Operand} {b : Int} (i m : Nat) (hx : evS σ x = some (.int .i64 (i : Int))) (hy : evS σ y = some (.int .i64 b)) (hb : b = (m : Int)) (hm : 0 < m) : Val P n σ I ⟨dst, .binOp .rem t x y t2, ty, pos, af, gd⟩ (.int .i64 ((i % m : Nat) : Int)) := .bin hx hy (by rfl) (fun w => by
  subst hb
  have h0 : ((m : Nat) : Int) ≠ 0 := by omega
  rw [binOp_rem, Op.intDiv, if_neg h0]
  simp only [Int.tmod_eq_emod_of_nonneg (show (0 : Int) ≤ (i : Int) by omega), ← Int.natCast_emod]
  simp [Sem.run_pure])
/-- A loop of a few rounds, walked one behind another. -/
theorem HC.loopN {c : Code} (k : Nat) (h : HC P c (Exit.then (Code.rounds P c Q k) Q) D w0 n σ η) : HC P (.loop c) Q D w0 n σ η := ⟨fun a w ha hw => wp_loop_rounds (k + 1) (h.out a w ha hw)⟩
theorem HQ.againN {c : Code} {k : Nat} (h : HC P c (Exit.then (Code.rounds P c Q k) Q) D w0 n σ η) : HQ (Exit.then (Code.rounds P c Q (k + 1)) Q) .normal D w0 n σ η := ⟨fun a w ha hw => h.out a w ha hw⟩
/-- Two blocks are overwritten. -/
theorem Hold.put2 {w w' : World} (h : Hold D w0 η w) {i j b c : Nat} {ob oc : Obj} {cs ds fs : Array Value} {T U : TypeId} (hi : η[i]? = some (b, .cells fs T (0, 0))) (hj : η[j]? = some (c, oc)) (hn : i ≠ j) (hD : w0.heap.size ≤ b ∨ D b = true) (hE : w0.heap.size ≤ c ∨ D c = true)
    (hos : w'.os = w.os) (ht : w'.tape = w.tape) (hou : w'.output = w.output) (hsz : w.heap.size ≤ w'.heap.size) (hb : ∀ k, k < w.heap.size → k ≠ b → k ≠ c → w'.heap[k]? = w.heap[k]?) (ho : w'.heap[b]? = some (.cells cs T (0, 0))) (ho2 : w'.heap[c]? = some (.cells ds U (0, 0))) (hob : ob = .cells ds U (0, 0)) :
    Hold D w0 ((η.set i (b, .cells cs T (0, 0))).set j (c, ob)) w' := by
  subst hob
  have h1 : Hold D w0 (η.set i (b, .cells cs T (0, 0))) (w.setRow b cs) := h.put hi hD rfl rfl rfl (by simp) (fun k _ hk => setRow_other w b k cs hk) (setRow_heap w b fs cs T (0, 0) (h.at hi))
  have hj' : (η.set i (b, .cells cs T (0, 0)))[j]? = some (c, oc) := by rw [List.getElem?_set_ne hn]; exact hj
  refine h1.put hj' hE hos ht hou (by simpa using hsz) (fun k hk hne => ?_) ho2
  have hk' : k < w.heap.size := by simpa using hk
  by_cases e : k = b
  · subst e; rw [ho, setRow_heap w k fs cs T (0, 0) (h.at hi)]
  · rw [hb k hk' e hne, setRow_other w b k cs e]
end
theorem idxI_wrap {q : Nat} (h : q < 1000) : IntKind.i64.wrap ((q : Int) - 1) = ((q : Int) - 1) := by rw [IntKind.wrap_i64]; omega
theorem geqI (q : Nat) : decide ((0 : Int) ≤ (q : Int)) = true := decide_eq_true (Int.natCast_nonneg q)
theorem shrNat (x m : Nat) : (x : Int) / 2 ^ ((m : Nat) : Int).toNat = ((x / 2 ^ m : Nat) : Int) := by
  rw [Int.toNat_natCast]; norm_cast
end Go.Proofs.YteehdjkmjncehaaDoor

namespace Go.Proofs.YteehdjkmjncehaaDoor
open Go.RowKit
section
variable {P : Program} {n : Nat} {σ : List (Nat × Value)} {η : List (Nat × Obj)} {I : World → Prop} {dst : Option Tmp} {ty : TypeId} {pos : String} {af : Array Edge} {gd : Option (Nat × Bool)} {xs : Array Operand} {ats : Array TypeId} {v : Value}
/-- A call that the model answers by itself. -/
theorem Val.callV {f : FuncId} {args : List Value} (he : ∀ w, (callFunc f args.toArray).run P w = .ok (.value v) w) (hx : xs.toList.mapM (evS σ) = some args) :
    Val P n σ I ⟨dst, .call { callee := .value (.func f), args := xs, argTypes := ats }, ty, pos, af, gd⟩ v := .of_run fun a w ha _ => by
  have hm : xs.map a.eval = args.toArray := by
    apply Array.toList_inj.1
    rw [Array.toList_map]; exact mapM_ev1 ha _ _ hx
  have e : execOp a.eval ⟨dst, .call { callee := .value (.func f), args := xs, argTypes := ats }, ty, pos, af, gd⟩ = callFunc f (#[] ++ xs.map a.eval ++ #[]) := rfl
  rw [e, hm]
  simp only [Array.empty_append, Array.append_empty]
  exact he w
/-- The same cells as at the beginning. -/
theorem Sn.cell {D : Nat → Bool} {w0 w : World} (h : Sn D w0 w) {b o : Nat} {u : Value} (hc : w0.cell? ⟨b, o, none⟩ = some u) (hd : D b = false) : w.cell? ⟨b, o, none⟩ = some u := by
  have hb := World.block_lt_of_cell? w0 ⟨b, o, none⟩ hc
  have := h.block b hb hd
  simp only [World.cell?] at hc ⊢
  rw [this]; exact hc
/-- A row, its cells known one by one. -/
theorem Val.load_cells {t : TypeId} {x : Operand} {b o : Nat} {d : TypeDesc} (cs : Array Value) (hx : evS σ x = some (.pointer (some ⟨b, o, none⟩))) (hI : ∀ w, I w → ∀ j, j < cs.size → w.cell? ⟨b, o + j, none⟩ = cs[j]?) (hu : P.underlying t = some d) (hd : d.isRow = true) (hi : (P.info? t).map (·.size) = some cs.size) :
    Val P n σ I ⟨dst, .load t x, ty, pos, af, gd⟩ (.agg cs) :=
  .run1 (fun u => Instr.loadAt t u) (fun _ => rfl) hx (fun w hw => by
    have hr : w.rangeAt b o cs.toList := fun j v hj => by
      have hl : j < cs.size := by simpa using (List.getElem?_eq_some_iff.1 hj).1
      rw [hI w hw j hl]; simpa using hj
    have := run_loadAt_mid (P := P) w b o t cs.toList d hr hu hd (by simpa using hi)
    simpa using this)
/-- One cell, known by itself. -/
theorem Val.load_one {t : TypeId} {x : Operand} {ad : Addr} {d : TypeDesc} (hx : evS σ x = some (.pointer (some ad))) (hI : ∀ w, I w → w.cell? ad = some v) (hu : P.underlying t = some d) (hd : d.isRow = false) : Val P n σ I ⟨dst, .load t x, ty, pos, af, gd⟩ v :=
  .run1 (fun u => Instr.loadAt t u) (fun _ => rfl) hx (fun w hw => by
    have hagg : (isAgg t).run P w = .ok false w := by
      unfold isAgg
      rw [Sem.run_bind, run_underlying hu w]
      cases d <;> simp_all
    simp [Instr.loadAt, Instr.sureAddr, loadVar, Sem.run_bind, hagg, hI w hw])
/-- A call by a contract on blocks, its answer and its blocks said. -/
theorem HL.callD {ops : Array Oper} {Q : Exit → Act → World → Prop} {D : Nat → Bool} {w0 : World} {rest : List Oper} {d : Nat} {f : FuncId} {args : List Value} {η' : List (Nat × Obj)} (he : ∀ args w, (callFunc f args).run P w = .ok (.enter f args) w) (hx : xs.toList.mapM (evS σ) = some args)
    (hc : ∀ w, Hold D w0 η w → Calls P f args.toArray w fun e w' => e = .returned v ∧ Hold D w0 η' w') (hd : d < n) (h : HL P ops Q D w0 n rest ((d, v) :: σ) η') : HL P ops Q D w0 n (⟨some d, .call { callee := .value (.func f), args := xs, argTypes := ats }, ty, pos, af, none⟩ :: rest) σ η :=
  HL.call (α := Unit) (R := fun _ => True) (v := fun _ => v) (η' := fun _ => η') he hx (fun w hw => (hc w hw).mono fun _ _ hh => ⟨(), trivial, hh⟩) hd fun _ _ => h
/-- A callee's blocks in its caller's lists: it may turn one. -/
theorem lift_one {D : Nat → Bool} {w0 w : World} {f : FuncId} {args : Array Value} {i b : Nat} {ob ob' : Obj} (hw : Hold D w0 η w) (hi : η[i]? = some (b, ob)) (hD : w0.heap.size ≤ b ∨ D b = true)
    (hc : Calls P f args w fun e w' => e = .returned v ∧ Hold (fun k => k == b) w [(b, ob')] w') : Calls P f args w fun e w' => e = .returned v ∧ Hold D w0 (η.set i (b, ob')) w' :=
  hc.mono fun _ _ hh => ⟨hh.1, hw.lift1 hi hD hh.2 (hh.2.at (i := 0) rfl)⟩
section
variable {t t2 : TypeId} {x y : Operand}
/-- An element of an array's value: a row. -/
theorem Val.indexN {k : IntKind} {m i s : Nat} {e : TypeId} {d : TypeDesc} {cs : Array Value} (ps : Array Value) (hx : evS σ x = some (.agg cs)) (hy : evS σ y = some (.int k (i : Int))) (hu : P.underlying t = some (.array m e)) (he : P.underlying e = some d) (hd : d.isRow = true) (hs : (P.info? e).map (·.size) = some s) (hi : i < m) (hv : cs.extract (i * s) (i * s + s) = ps) :
    Val P n σ I ⟨dst, .index t x y, ty, pos, af, gd⟩ (.agg ps) := .of_run fun a w ha _ => by
  have h1 := ha.eval hx
  have h2 := ha.eval hy
  have hel : P.elem t = e := by simp [Program.elem, hu]
  have hagg : (isAgg e).run P w = .ok true w := by
    unfold isAgg
    rw [Sem.run_bind, run_underlying he w]
    cases d <;> simp_all
  have hp : (part e cs (i * s)).run P w = .ok (.agg ps) w := by
    unfold part
    simp [hagg, size_of hs w, hv]
  unfold execOp
  simp [h1, h2, Instr.index, run_underlying hu w, asIntOf, hi, size_of hs w, hp]
theorem run_equalIn_bool (w : World) (d : Nat) (a b : Bool) (h : P.underlying t = some .bool) : (Op.equalIn (d + 1) t (.bool a) (.bool b)).run P w = .ok (a == b) w := by
  simp [Op.equalIn, run_underlying h]
theorem run_equal_bool (w : World) (a b : Bool) (h : P.underlying t = some .bool) : (Op.equal t (.bool a) (.bool b)).run P w = .ok (a == b) w := by
  unfold Op.equal Op.maxDepth
  exact run_equalIn_bool w 9999 a b h
theorem Val.eqlBool {a b : Bool} (hx : evS σ x = some (.bool a)) (hy : evS σ y = some (.bool b)) (hu : P.underlying t = some .bool) : Val P n σ I ⟨dst, .binOp .eql t x y t2, ty, pos, af, gd⟩ (.bool (a == b)) := .bin hx hy (by rfl) (fun w => by simp only [binOp]; simp [run_equal_bool w a b hu])
theorem Val.neqBool {a b : Bool} (hx : evS σ x = some (.bool a)) (hy : evS σ y = some (.bool b)) (hu : P.underlying t = some .bool) : Val P n σ I ⟨dst, .binOp .neq t x y t2, ty, pos, af, gd⟩ (.bool (a != b)) := .bin hx hy (by rfl) (fun w => by simp only [binOp]; simp [run_equal_bool w a b hu, bne])
end
end
end Go.Proofs.YteehdjkmjncehaaDoor

namespace Go.Proofs.YteehdjkmjncehaaDoor
open Go.RowKit
section
variable {P : Program} {D : Nat → Bool} {w0 : World} {n : Nat} {σ : List (Nat × Value)} {η : List (Nat × Obj)}
/-- Results: a block and a slot. -/
theorem HQ.retct {fn : Func} {p q : Tmp} {t T : TypeId} {b : Nat} {cs : Array Value} {v : Value} {d : TypeDesc} {R : Ending → World → Prop} (i : Nat) (hr : fn.results = #[.cell p t, .tmp q]) (hp : σ.lookup p = some (.pointer (some ⟨b, 0, none⟩))) (hq : σ.lookup q = some v) (hi : η[i]? = some (b, .cells cs T (0, 0)))
    (hu : P.underlying t = some d) (hd : (match d with | .struct _ | .array _ _ => true | _ => false) = true) (hs : (P.info? t).map (·.size) = some cs.size) (h : ∀ w, Hold D w0 η w → R (.returned (.tuple #[.agg cs, v])) w) : HQ (bodyPost P fn R) .ret D w0 n σ η := ⟨fun a w ha hw => by
  refine bodyPost_ret (v := .tuple #[.agg cs, v]) ?_ ha.defers (h w hw)
  have h1 : a.tmps[p]?.getD undef = .pointer (some ⟨b, 0, none⟩) := by simp [ha.held p _ hp]
  have h2 : a.tmps[q]?.getD undef = v := by simp [ha.held q _ hq]
  simp [results, hr, h1, h2, asAddr, run_loadVar_row w b T t cs (0, 0) d (hw.at hi) hu hd hs]⟩
end
end Go.Proofs.YteehdjkmjncehaaDoor

namespace Go.Proofs.YteehdjkmjncehaaDoor
open Go.RowKit
section
variable {P : Program} {ops : Array Oper} {Q : Exit → Act → World → Prop} {D : Nat → Bool} {w0 : World} {n : Nat} {σ : List (Nat × Value)} {η : List (Nat × Obj)} {I : World → Prop}
theorem wpVL_of {w : World} {K : Act → Prop} (hI : ∀ w', SinceD (fun _ => false) w w' → I w') : ∀ (l : List Oper) (a : Act), wpVI P ops I K l a → wpVL P ops (fun _ => false) w K l a
  | [], _, h => h
  | _ :: l, _, ⟨v, hv, h⟩ => ⟨v, hv.imp (fun ⟨h1, h2⟩ => ⟨h1, fun w' hw => h2 w' (hI w' hw)⟩) id, wpVL_of hI l _ h⟩
/-- What stands behind two new blocks: a store into each. -/
structure Tail2 (P : Program) (Q : Exit → Act → World → Prop) (D : Nat → Bool) (w0 : World) (o3 o4 : Oper) (d1 d2 : Nat) (ob1 ob2 : Obj) (η : List (Nat × Obj)) (ops : Array Oper) (a : Act) : Prop where
  out : ∀ b1 b2, w0.heap.size ≤ b1 → w0.heap.size ≤ b2 → ∃ ob3 ob4, PutS P ops o3 b1 ob1 ob3 ((a.put (some d1) (.pointer (some ⟨b1, 0, none⟩))).put (some d2) (.pointer (some ⟨b2, 0, none⟩))) ∧ PutS P ops o4 b2 ob2 ob4 ((a.put (some d1) (.pointer (some ⟨b1, 0, none⟩))).put (some d2) (.pointer (some ⟨b2, 0, none⟩))) ∧
    ∀ w, Hold D w0 ((b2, ob4) :: (b1, ob3) :: η) w → Q .normal ((a.put (some d1) (.pointer (some ⟨b1, 0, none⟩))).put (some d2) (.pointer (some ⟨b2, 0, none⟩))) w
theorem newS_of {t d : Nat} {ty : TypeId} {pos : String} {af : Array Edge} {ob : Obj} {w : World} (hz : ∀ w, (Instr.alloc t true (.tuple #[])).run P w = .ok (.pointer (some ⟨w.heap.size, 0, none⟩)) (w.alloc ob)) (a : Act) : NewS P ops (fun _ => false) w ⟨some d, .alloc t, ty, pos, af, none⟩ ob a :=
  ⟨by simp [Region.wanted], fun w _ => by unfold execOp; simp [hz w]⟩
theorem HC.draw2s {l : List Oper} {id : Nat} (v : Nat) (hm : P.follows .mixedOrders = true) (hc : (headB .any l.toArray v && tailB .any l.toArray (v + 2) && new2B .any l.toArray v) = true) {d1 d2 t1 t2 : Nat} {ty1 ty2 : TypeId} {p1 p2 : String} {f1 f2 : Array Edge} {o3 o4 : Oper} {ob1 ob2 : Obj}
    (h1 : l[v]? = some ⟨some d1, .alloc t1, ty1, p1, f1, none⟩) (h2 : l[v + 1]? = some ⟨some d2, .alloc t2, ty2, p2, f2, none⟩) (h34 : l.drop (v + 2) = [o3, o4]) (hd : d2 ≠ d1)
    (z1 : ∀ w, (Instr.alloc t1 true (.tuple #[])).run P w = .ok (.pointer (some ⟨w.heap.size, 0, none⟩)) (w.alloc ob1)) (z2 : ∀ w, (Instr.alloc t2 true (.tuple #[])).run P w = .ok (.pointer (some ⟨w.heap.size, 0, none⟩)) (w.alloc ob2))
    (h : HV P l.toArray (Hold D w0 η) n (Tail2 P Q D w0 o3 o4 d1 d2 ob1 ob2 η l.toArray) (l.take v) σ) : HC P (.region id l.toArray true) Q D w0 n σ η := ⟨fun a w ha hw => by
  refine wp_region_new2 v (fun _ => false) (fun _ => none) hm hc (fun _ _ h => by cases h) h1 h2 (fun d e => by cases e; simpa using hd) (newS_of z1) (newS_of z2) ?_
  refine wpVL_mono (fun a hK => ?_) _ _ (wpVL_of (fun w' hw' => hw.on (hw'.below (Nat.le_refl _) (fun _ _ => rfl))) _ _ (h.out a ha))
  intro b1 b2 g1 g2 hne _ _
  obtain ⟨ob3, ob4, p3, p4, hq⟩ := hK.out b1 b2 (Nat.le_trans hw.sn.size g1) (Nat.le_trans hw.sn.size g2)
  rw [h34]
  refine ⟨b1, ob1, ob3, by simp [updC, hne], fun h => by omega, p3, b2, ob2, ob4, by simp [updC, Ne.symm hne], fun h => by omega, p4, fun w' hs => hq w' ?_⟩
  have hb : Below w.heap.size w w' := hs.since.below (Nat.le_refl _) (fun _ _ => rfl)
  have e1 := hs.held b1 ob3 (by simp [updC, hne])
  have e2 := hs.held b2 ob4 (by simp [updC])
  refine ⟨hw.sn.on hb, fun p hp => ?_, ?_⟩
  · rcases List.mem_cons.1 hp with rfl | hp
    · exact e2
    · rcases List.mem_cons.1 hp with rfl | hp
      · exact e1
      · exact (hw.on hb).held p hp
  · have old : ∀ b, w.heap.size ≤ b → b ∉ η.map Prod.fst := fun b hb hm => by
      obtain ⟨p, hp, e⟩ := List.mem_map.1 hm
      have := hw.lt hp
      rw [e] at this; omega
    simp only [List.map_cons, List.nodup_cons, List.mem_cons, not_or]
    exact ⟨⟨Ne.symm hne, old b2 g2⟩, old b1 g1, hw.nd⟩⟩
theorem putS_of {op : Op} {ty : TypeId} {pos : String} {af : Array Edge} {b : Nat} {x y : Obj} (h : Put P n σ ⟨none, op, ty, pos, af, none⟩ b x y) {a : Act} (ha : Tm n σ a) : PutS P ops ⟨none, op, ty, pos, af, none⟩ b x y a :=
  ⟨by simp [Region.wanted], rfl, fun w hw => by
    obtain ⟨w', e, h1, h2, h3, h4, h5, h6⟩ := h.out a w ha hw
    exact ⟨w', e, ⟨h1, h2, h3, h4, h5⟩, h6⟩⟩
theorem HV.tail2s {d1 d2 : Nat} {op3 op4 : Op} {ty3 ty4 : TypeId} {p3 p4 : String} {f3 f4 : Array Edge} {ob1 ob2 : Obj} {ob3 ob4 : Obj} (hd1 : d1 < n) (hd2 : d2 < n)
    (h3 : ∀ b1 b2, Put P n ((d2, .pointer (some ⟨b2, 0, none⟩)) :: (d1, .pointer (some ⟨b1, 0, none⟩)) :: σ) ⟨none, op3, ty3, p3, f3, none⟩ b1 ob1 ob3) (h4 : ∀ b1 b2, Put P n ((d2, .pointer (some ⟨b2, 0, none⟩)) :: (d1, .pointer (some ⟨b1, 0, none⟩)) :: σ) ⟨none, op4, ty4, p4, f4, none⟩ b2 ob2 ob4)
    (h : ∀ b1 b2, w0.heap.size ≤ b1 → w0.heap.size ≤ b2 → HQ Q .normal D w0 n ((d2, .pointer (some ⟨b2, 0, none⟩)) :: (d1, .pointer (some ⟨b1, 0, none⟩)) :: σ) ((b2, ob4) :: (b1, ob3) :: η)) :
    HV P ops I n (Tail2 P Q D w0 ⟨none, op3, ty3, p3, f3, none⟩ ⟨none, op4, ty4, p4, f4, none⟩ d1 d2 ob1 ob2 η ops) [] σ := ⟨fun _ ha => ⟨fun b1 b2 g1 g2 =>
  have hA := (ha.put hd1 (.pointer (some ⟨b1, 0, none⟩))).put hd2 (.pointer (some ⟨b2, 0, none⟩))
  ⟨ob3, ob4, putS_of (h3 b1 b2) hA, putS_of (h4 b1 b2) hA, fun w hw => (h b1 b2 g1 g2).out _ w hA hw⟩⟩⟩
end
end Go.Proofs.YteehdjkmjncehaaDoor

namespace Go.Proofs.YteehdjkmjncehaaDoor
open Go.RowKit
section
variable {P : Program} {D : Nat → Bool} {w0 : World} {n : Nat} {σ : List (Nat × Value)} {η : List (Nat × Obj)} {I : World → Prop} {dst : Option Tmp} {ty : TypeId} {pos : String} {af : Array Edge} {gd : Option (Nat × Bool)} {t t2 e src u : TypeId} {x y : Operand} {v : Value} {k k2 : IntKind}
theorem Val.strOf {b o l c : Nat} (xs : List Int)
    (hx : evS σ x = some (.slice (some ⟨b, o, none⟩) l c)) (hs : P.underlying src = some (.slice e)) (he : P.underlying e = some (.int .u8)) (hd : P.underlying t = some .string) (hl : xs.length = l)
    (hc : ∀ w, I w → ∀ i, i < l → w.cell? ⟨b, o + i, none⟩ = some (.int .u8 (xs.getD i 0))) :
    Val P n σ I ⟨dst, .convert src t x, ty, pos, af, gd⟩ (.string (strOfNums xs)) := .of_run fun a w ha hI => by
  have h1 := ha.eval hx
  have h2 := run_convert_bytes_arg w src e hs he b o l c xs hl (hc w hI) t hd
  unfold execOp
  simp [h1, h2]
theorem Val.eqlStr {s s' : ByteArray} (hx : evS σ x = some (.string s)) (hy : evS σ y = some (.string s')) :
    Val P n σ I ⟨dst, .binOp .eql t x y t2, ty, pos, af, gd⟩ (.bool (s.toList == s'.toList)) := .bin hx hy (by rfl) (fun w => by
  simp only [binOp, Op.stringOp, Sem.run_pure])
theorem Val.notNil (hx : evS σ x = some (.iface u v)) (hu : P.underlying t = some (.interface (P.methodsAt t))) :
    Val P n σ I ⟨dst, .binOp .neq t x (.const .nilIface) t2, ty, pos, af, gd⟩ (.bool true) := .bin hx rfl (by rfl) (fun w => run_neq_held_nil w t u v hu)
theorem Val.isNil (hx : evS σ x = some .nilIface) (hu : P.underlying t = some (.interface (P.methodsAt t))) :
    Val P n σ I ⟨dst, .binOp .neq t x (.const .nilIface) t2, ty, pos, af, gd⟩ (.bool false) := .bin hx rfl (by cases x <;> rfl) (fun w => run_neq_nil_nil w t hu)
theorem Val.makeIface (hx : evS σ x = some v) (h : P.concrete t = true) : Val P n σ I ⟨dst, .makeInterface t x, ty, pos, af, gd⟩ (.iface t v) := .of_run fun a w ha _ => by
  have h1 := ha.eval hx
  unfold execOp
  simp [h1, run_makeInterface w t v h]
theorem map_info {e : TypeId} {s : Nat} (hs : (P.info? e).map (·.size) = some s) : ∃ i, P.info? e = some i ∧ i.size = s := by
  cases hq : P.info? e with
  | none => simp [hq] at hs
  | some i => simp [hq] at hs; exact ⟨i, rfl, hs⟩
/-- make of a slice. -/
theorem New.make {z : Value} {s by' : Nat} {cs : Array Value} (c : Nat) (hx : evS σ x = some (.int k (c : Int))) (hy : evS σ y = some (.int k2 (c : Int))) (hu : P.underlying t = some (.slice e)) (hs : (P.info? e).map (·.size) = some s) (hz : (P.info? e).bind (·.zero) = some z) (hb : (P.info? e).map (·.bytes) = some by')
    (hby : by' * c ≤ 281474976710656) (h63 : c ≤ 9223372036854775807) (hcs : madeCells z.cells (c * s) = cs) :
    New P n σ I ⟨dst, .makeSlice t x y, ty, pos, af, gd⟩ (.cells cs e (0, 0)) (fun b => .slice (some ⟨b, 0, none⟩) c c) := ⟨fun a w ha _ => by
  have h1 := ha.eval hx
  have h2 := ha.eval hy
  obtain ⟨i, hi, rfl⟩ := map_info hs
  rw [hi] at hz hb
  simp only [Option.bind_some, Option.map_some, Option.some.injEq] at hz hb
  subst hb
  have hb' : (i.bytes : Int) * (c : Int) ≤ 281474976710656 := by
    have h : ((i.bytes * c : Nat) : Int) ≤ 281474976710656 := by omega
    rwa [Int.natCast_mul] at h
  have := run_make (P := P) w t e i z hu hi hz k k2 c c (by omega) (Int.le_refl _) hb' (by omega)
  rw [Int.toNat_natCast, hcs] at this
  unfold execOp
  simp only [h1, h2, Sem.run_bind, this, Result.andThen_ok]
  rfl⟩
end
theorem row_cells {w : World} {b T : Nat} {cs : Array Value} {xs : List Int} {m : Nat} {fr : Nat × Nat} (h : w.heap[b]? = some (.cells cs T fr)) (hc : ∀ i, i < m → cs[i]? = some (.int .u8 (xs.getD i 0))) : ∀ i, i < m → w.cell? ⟨b, 0 + i, none⟩ = some (.int .u8 (xs.getD i 0)) := fun i hi => by
  rw [Nat.zero_add, cell_of_row w b i cs T fr h]; exact hc i hi
/-- A part of a block, cell by cell. -/
theorem cell_part {w : World} {b T q : Nat} {cs ps : Array Value} {fr : Nat × Nat} (h : w.heap[b]? = some (.cells cs T fr)) (hp : ∀ j, j < ps.size → cs[q + j]? = ps[j]?) : ∀ j v, ps[j]? = some v → w.cell? ⟨b, q + j, none⟩ = some v := fun j v hj => by
  rw [cell_of_row w b _ cs T fr h, hp j (Array.getElem?_eq_some_iff.1 hj).1]; exact hj
/-- A block that a callee has made, in its caller's lists. -/
theorem Hold.extend {D : Nat → Bool} {w0 w w' : World} {η : List (Nat × Obj)} {b : Nat} {ob : Obj} (hw : Hold D w0 η w) (hb : w.heap.size ≤ b) (hB : Below w.heap.size w w') (h : w'.heap[b]? = some ob) : w0.heap.size ≤ b ∧ Hold D w0 ((b, ob) :: η) w' := by
  refine ⟨Nat.le_trans hw.sn.size hb, hw.sn.on hB, fun p hp => ?_, ?_⟩
  · rcases List.mem_cons.1 hp with rfl | hp
    · exact h
    · exact (hw.on hB).held p hp
  · rw [List.map_cons, List.nodup_cons]
    refine ⟨fun hm => ?_, hw.nd⟩
    obtain ⟨p, hp, e⟩ := List.mem_map.1 hm
    have := hw.lt hp
    rw [e] at this
    omega
end Go.Proofs.YteehdjkmjncehaaDoor
