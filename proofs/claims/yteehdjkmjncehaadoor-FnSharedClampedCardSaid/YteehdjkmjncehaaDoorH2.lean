
/-
  The steps of the symbolic walk.
-/
import Derived.Test.YteehdjkmjncehaaDoorH
import Derived.Test.YteehdjkmjncehaaDoorArr
namespace Go.Proofs.YteehdjkmjncehaaDoor
open Go.RowKit
section
variable {P : Program} {ops : Array Oper} {Q : Exit → Act → World → Prop} {D : Nat → Bool} {w0 : World} {n : Nat} {σ : List (Nat × Value)} {η : List (Nat × Obj)} {I : World → Prop} {K : Act → Prop}
  {dst : Option Tmp} {ty : TypeId} {pos : String} {af : Array Edge} {gd : Option (Nat × Bool)} {rest : List Oper} {op : Op} {d : Nat} {v : Value}
/-- The operation tells v, whatever the activation with these slots and the world of I. -/
structure Val (P : Program) (n : Nat) (σ : List (Nat × Value)) (I : World → Prop) (o : Oper) (v : Value) : Prop where
  out : ∀ a w, Tm n σ a → I w → match (execOp a.eval o).run P w with
    | .ok (.value u) w' => u = v ∧ Below w.heap.size w w'
    | .ok (.enter f args) w' => Calls P f args w' fun e w'' => e = .returned v ∧ Below w.heap.size w w''
    | _ => False
/-- It makes a block. -/
structure New (P : Program) (n : Nat) (σ : List (Nat × Value)) (I : World → Prop) (o : Oper) (ob : Obj) (pv : Nat → Value) : Prop where
  out : ∀ a w, Tm n σ a → I w → (execOp a.eval o).run P w = .ok (.value (pv w.heap.size)) (w.alloc ob)
/-- A list of operations in one order. -/
structure HL (P : Program) (ops : Array Oper) (Q : Exit → Act → World → Prop) (D : Nat → Bool) (w0 : World) (n : Nat) (l : List Oper) (σ : List (Nat × Value)) (η : List (Nat × Obj)) : Prop where
  out : ∀ a w, Tm n σ a → Hold D w0 η w → wpList P ops Q l a w
/-- Values in a region that draws its order. -/
structure HV (P : Program) (ops : Array Oper) (I : World → Prop) (n : Nat) (K : Act → Prop) (l : List Oper) (σ : List (Nat × Value)) : Prop where
  out : ∀ a, Tm n σ a → wpVI P ops I K l a
/-- Code. -/
structure HC (P : Program) (c : Code) (Q : Exit → Act → World → Prop) (D : Nat → Bool) (w0 : World) (n : Nat) (σ : List (Nat × Value)) (η : List (Nat × Obj)) : Prop where
  out : ∀ a w, Tm n σ a → Hold D w0 η w → c.wp P Q a w
/-- An exit. -/
structure HQ (Q : Exit → Act → World → Prop) (e : Exit) (D : Nat → Bool) (w0 : World) (n : Nat) (σ : List (Nat × Value)) (η : List (Nat × Obj)) : Prop where
  out : ∀ a w, Tm n σ a → Hold D w0 η w → Q e a w
/-- The guard of an operation. -/
def wantB (ops : Array Oper) (σ : List (Nat × Value)) (g : Nat × Bool) : Option Bool :=
  match ((ops[g.1]?).bind (·.dst)).bind (σ.lookup ·) with
  | some (.bool c) => some (c == g.2)
  | some _ => some false
  | none => none
theorem wanted_of {g : Nat × Bool} {t : Bool} {a : Act} (h : wantB ops σ g = some t) (ha : Tm n σ a) : Region.wanted ⟨dst, op, ty, pos, af, some g⟩ (yielded ops a.tmps) = t := by
  obtain ⟨g, b⟩ := g
  simp only [wantB] at h
  simp only [Region.wanted, yielded]
  cases hd : (ops[g]?).bind (·.dst) with
  | none => simp [hd] at h
  | some k =>
    simp only [hd, Option.bind_some] at h ⊢
    cases hk : σ.lookup k with
    | none => simp [hk] at h
    | some u =>
      have := ha.held k u hk
      rw [this]
      rw [hk] at h
      cases u <;> simp at h ⊢ <;> exact h
theorem Val.at (h : Val P n σ I ⟨dst, op, ty, pos, af, gd⟩ v) {a : Act} (ha : Tm n σ a) (hw : Region.wanted ⟨dst, op, ty, pos, af, gd⟩ (yielded ops a.tmps) = true) : ValI P ops I ⟨dst, op, ty, pos, af, gd⟩ v a := .inl ⟨hw, fun w hI => h.out a w ha hI⟩
theorem New.at {ob : Obj} {pv : Nat → Value} (h : New P n σ I ⟨dst, op, ty, pos, af, none⟩ ob pv) {a : Act} (ha : Tm n σ a) : NewI P ops I ⟨dst, op, ty, pos, af, none⟩ ob pv a := ⟨by simp [Region.wanted], fun w hI => h.out a w ha hI⟩
theorem Val.wp (h : Val P n σ (Hold D w0 η) ⟨some d, op, ty, pos, af, gd⟩ v) (hd : d < n) {a : Act} {w : World} (ha : Tm n σ a) (hw : Hold D w0 η w) {K : Act → World → Prop} (hK : ∀ a w, Tm n ((d, v) :: σ) a → Hold D w0 η w → K a w) : Oper.wp P ⟨some d, op, ty, pos, af, gd⟩ a w K Q := by
  have hv := h.out a w ha hw
  unfold Oper.wp
  generalize (execOp a.eval _).run P w = r at *
  cases r with
  | ok nx w' =>
    cases nx <;> simp only [Oper.upon] at hv ⊢
    case value u => obtain ⟨rfl, hb⟩ := hv; exact hK _ _ (ha.put hd _) (hw.on hb)
    case enter f args =>
      refine hv.mono fun e w'' he => ?_
      obtain ⟨rfl, he⟩ := he
      exact hK _ _ (ha.put hd _) (hw.on he)
  | halt x w' => exact hv.elim
/-! ### Lists in one order -/
theorem HL.nil (h : HQ Q .normal D w0 n σ η) : HL P ops Q D w0 n [] σ η := ⟨fun a w ha hw => wpList_nil (h.out a w ha hw)⟩
theorem HL.val (hv : Val P n σ (Hold D w0 η) ⟨some d, op, ty, pos, af, none⟩ v) (hd : d < n) (h : HL P ops Q D w0 n rest ((d, v) :: σ) η) : HL P ops Q D w0 n (⟨some d, op, ty, pos, af, none⟩ :: rest) σ η := ⟨fun a w ha hw => by
  unfold wpList
  rw [if_pos (by simp [Region.wanted])]
  exact .inl (hv.wp hd ha hw fun a w ha hw => h.out a w ha hw)⟩
theorem HL.valg {g : Nat × Bool} (hg : wantB ops σ g = some true) (hv : Val P n σ (Hold D w0 η) ⟨some d, op, ty, pos, af, some g⟩ v) (hd : d < n) (h : HL P ops Q D w0 n rest ((d, v) :: σ) η) : HL P ops Q D w0 n (⟨some d, op, ty, pos, af, some g⟩ :: rest) σ η := ⟨fun a w ha hw => by
  unfold wpList
  rw [if_pos (wanted_of hg ha)]
  exact .inl (hv.wp hd ha hw fun a w ha hw => h.out a w ha hw)⟩
theorem HL.skip {g : Nat × Bool} (hg : wantB ops σ g = some false) (hd : d < n) (h : HL P ops Q D w0 n rest ((d, undef) :: σ) η) : HL P ops Q D w0 n (⟨some d, op, ty, pos, af, some g⟩ :: rest) σ η := ⟨fun a w ha hw => by
  unfold wpList
  rw [if_neg (by rw [wanted_of hg ha]; simp)]
  exact h.out _ _ (ha.put hd _) hw⟩
theorem HL.new {ob : Obj} {pv : Nat → Value} (hv : New P n σ (Hold D w0 η) ⟨some d, op, ty, pos, af, none⟩ ob pv) (hd : d < n) (h : ∀ b, w0.heap.size ≤ b → HL P ops Q D w0 n rest ((d, pv b) :: σ) ((b, ob) :: η)) : HL P ops Q D w0 n (⟨some d, op, ty, pos, af, none⟩ :: rest) σ η := ⟨fun a w ha hw => by
  unfold wpList
  rw [if_pos (by simp [Region.wanted])]
  refine .inl ?_
  unfold Oper.wp
  rw [hv.out a w ha hw]
  obtain ⟨h1, h2⟩ := hw.alloc ob
  exact (h _ h1).out _ _ (ha.put hd _) h2⟩
/-- A block is overwritten. -/
structure Put (P : Program) (n : Nat) (σ : List (Nat × Value)) (o : Oper) (b : Nat) (ob ob' : Obj) : Prop where
  out : ∀ a w, Tm n σ a → w.heap[b]? = some ob → ∃ w', (execOp a.eval o).run P w = .ok .skip w' ∧ w'.os = w.os ∧ w'.tape = w.tape ∧ w'.output = w.output ∧ w.heap.size ≤ w'.heap.size ∧ (∀ k, k < w.heap.size → k ≠ b → w'.heap[k]? = w.heap[k]?) ∧ w'.heap[b]? = some ob'
theorem HL.put (i : Nat) {b : Nat} {ob ob' : Obj} (hi : η[i]? = some (b, ob)) (hv : Put P n σ ⟨none, op, ty, pos, af, none⟩ b ob ob') (hD : w0.heap.size ≤ b ∨ D b = true) (h : HL P ops Q D w0 n rest σ (η.set i (b, ob'))) : HL P ops Q D w0 n (⟨none, op, ty, pos, af, none⟩ :: rest) σ η := ⟨fun a w ha hw => by
  unfold wpList
  rw [if_pos (by simp [Region.wanted])]
  refine .inl ?_
  unfold Oper.wp
  obtain ⟨w', hr, h1, h2, h3, h4, h5, h6⟩ := hv.out a w ha (hw.at hi)
  rw [hr]
  exact h.out a w' ha (hw.put hi hD h1 h2 h3 h4 h5 h6)⟩
/-- A call by a contract on blocks. -/
theorem HL.call {α : Sort _} {xs : Array Operand} {ats : Array TypeId} {f : FuncId} {args : List Value} {v : α → Value} {η' : α → List (Nat × Obj)} {R : α → Prop}
    (he : ∀ args w, (callFunc f args).run P w = .ok (.enter f args) w) (hx : xs.toList.mapM (evS σ) = some args)
    (hc : ∀ w, Hold D w0 η w → Calls P f args.toArray w fun e w' => ∃ r, R r ∧ e = .returned (v r) ∧ Hold D w0 (η' r) w') (hd : d < n)
    (h : ∀ r, R r → HL P ops Q D w0 n rest ((d, v r) :: σ) (η' r)) : HL P ops Q D w0 n (⟨some d, .call { callee := .value (.func f), args := xs, argTypes := ats }, ty, pos, af, none⟩ :: rest) σ η := ⟨fun a w ha hw => by
  unfold wpList
  rw [if_pos (by simp [Region.wanted])]
  refine .inl ?_
  unfold Oper.wp
  have hm : xs.map a.eval = args.toArray := by
    apply Array.toList_inj.1
    rw [Array.toList_map]
    clear hc h
    generalize xs.toList = l at hx
    induction l generalizing args with
    | nil => cases hx; rfl
    | cons x l ih =>
      rw [List.mapM_cons] at hx
      cases hxe : evS σ x with
      | none => simp [hxe] at hx
      | some u =>
        cases hl : l.mapM (evS σ) with
        | none => simp [hxe, hl] at hx
        | some us =>
          simp [hxe, hl] at hx
          subst hx
          simp [ha.eval hxe, ih hl]
  have e : execOp a.eval ⟨some d, .call { callee := .value (.func f), args := xs, argTypes := ats }, ty, pos, af, none⟩ = callFunc f (#[] ++ xs.map a.eval ++ #[]) := rfl
  rw [e, hm, he]
  simp only [Oper.upon, Array.empty_append, Array.append_empty]
  refine (hc w hw).mono fun e w'' hh => ?_
  obtain ⟨r, hr, rfl, hw'⟩ := hh
  exact (h r hr).out _ _ (ha.put hd _) hw'⟩
theorem HL.keep (ks : List Nat) (h : HL P ops Q D w0 n rest (keepS ks σ) η) : HL P ops Q D w0 n rest σ η := ⟨fun a w ha hw => h.out a w (ha.keep ks) hw⟩
/-! ### Values in whatever order -/
theorem HV.nil (h : ∀ a, Tm n σ a → K a) : HV P ops I n K [] σ := ⟨fun a ha => h a ha⟩
theorem HV.val (hv : Val P n σ I ⟨some d, op, ty, pos, af, none⟩ v) (hd : d < n) (h : HV P ops I n K rest ((d, v) :: σ)) : HV P ops I n K (⟨some d, op, ty, pos, af, none⟩ :: rest) σ := ⟨fun _ ha =>
  ⟨v, hv.at ha (by simp [Region.wanted]), h.out _ (ha.put hd _)⟩⟩
theorem HV.valg {g : Nat × Bool} (hg : wantB ops σ g = some true) (hv : Val P n σ I ⟨some d, op, ty, pos, af, some g⟩ v) (hd : d < n) (h : HV P ops I n K rest ((d, v) :: σ)) : HV P ops I n K (⟨some d, op, ty, pos, af, some g⟩ :: rest) σ := ⟨fun _ ha =>
  ⟨v, hv.at ha (wanted_of hg ha), h.out _ (ha.put hd _)⟩⟩
theorem HV.skip {g : Nat × Bool} (hg : wantB ops σ g = some false) (hd : d < n) (h : HV P ops I n K rest ((d, undef) :: σ)) : HV P ops I n K (⟨some d, op, ty, pos, af, some g⟩ :: rest) σ := ⟨fun _ ha =>
  ⟨undef, .inr ⟨wanted_of hg ha, rfl⟩, h.out _ (ha.put hd _)⟩⟩
/-! ### Code -/
theorem HC.seq {x y : Code} (h : HC P x (Exit.then (y.wp P Q) Q) D w0 n σ η) : HC P (.seq x y) Q D w0 n σ η := ⟨fun a w ha hw => wp_seq (h.out a w ha hw)⟩
theorem HQ.next {y : Code} (h : HC P y Q D w0 n σ η) : HQ (Exit.then (y.wp P Q) Q) .normal D w0 n σ η := ⟨fun a w ha hw => h.out a w ha hw⟩
theorem HC.region {l : List Oper} {id : Nat} (h : HL P l.toArray Q D w0 n l σ η) : HC P (.region id l.toArray false) Q D w0 n σ η := ⟨fun a w ha hw => wp_region_lit (h.out a w ha hw)⟩
theorem HC.skip (h : HQ Q .normal D w0 n σ η) : HC P .skip Q D w0 n σ η := ⟨fun a w ha hw => wp_skip (h.out a w ha hw)⟩
theorem HC.ret (h : HQ Q .ret D w0 n σ η) : HC P .ret Q D w0 n σ η := ⟨fun a w ha hw => wp_ret (h.out a w ha hw)⟩
theorem HC.exit {id : Nat} (h : HQ Q (.exit id) D w0 n σ η) : HC P (.exit id) Q D w0 n σ η := ⟨fun a w ha hw => wp_exit (h.out a w ha hw)⟩
theorem HC.block {id : Nat} {c : Code} (h : HC P c (Exit.inBlock id Q) D w0 n σ η) : HC P (.block id c) Q D w0 n σ η := ⟨fun a w ha hw => wp_block (h.out a w ha hw)⟩
theorem HC.yes {c : Operand} {x y : Code} (hc : evS σ c = some (.bool true)) (h : HC P x Q D w0 n σ η) : HC P (.cond c x y) Q D w0 n σ η := ⟨fun a w ha hw => wp_cond_true (ha.eval hc) (h.out a w ha hw)⟩
theorem HC.no {c : Operand} {x y : Code} (hc : evS σ c = some (.bool false)) (h : HC P y Q D w0 n σ η) : HC P (.cond c x y) Q D w0 n σ η := ⟨fun a w ha hw => wp_cond_false (ha.eval hc) (h.out a w ha hw)⟩
theorem HC.keep {c : Code} (ks : List Nat) (h : HC P c Q D w0 n (keepS ks σ) η) : HC P c Q D w0 n σ η := ⟨fun a w ha hw => h.out a w (ha.keep ks) hw⟩
/-- Blocks are forgotten: those at the places js stay, in that order. -/
theorem pick_nodup (η : List (Nat × Obj)) (hn : (η.map Prod.fst).Nodup) : ∀ js : List Nat, js.Nodup → ((js.filterMap fun j => η[j]?).map Prod.fst).Nodup
  | [], _ => List.nodup_nil
  | j :: js, hj => by
    rw [List.nodup_cons] at hj
    rw [List.filterMap_cons]
    cases hq : η[j]? with
    | none => exact pick_nodup η hn js hj.2
    | some p =>
      simp only [List.map_cons, List.nodup_cons]
      refine ⟨fun hm => ?_, pick_nodup η hn js hj.2⟩
      obtain ⟨q, hq1, hq2⟩ := List.mem_map.1 hm
      obtain ⟨k, hk, hk2⟩ := List.mem_filterMap.1 hq1
      have hne : j ≠ k := fun e => hj.1 (e ▸ hk)
      obtain ⟨lj, gj⟩ := List.getElem?_eq_some_iff.1 hq
      obtain ⟨lk, gk⟩ := List.getElem?_eq_some_iff.1 hk2
      have nn := List.pairwise_iff_getElem.1 hn
      rcases Nat.lt_or_gt_of_ne hne with hlt | hlt
      · exact (nn j k (by simpa using lj) (by simpa using lk) hlt (by simp [gj, gk, hq2])).elim
      · exact (nn k j (by simpa using lk) (by simpa using lj) hlt (by simp [gj, gk, hq2])).elim
theorem Hold.pick {w : World} (hw : Hold D w0 η w) (js : List Nat) (hj : js.Nodup) : Hold D w0 (js.filterMap fun j => η[j]?) w := hw.sub (fun _ hp => by
    obtain ⟨j, _, hj⟩ := List.mem_filterMap.1 hp
    exact List.mem_of_getElem? hj) (pick_nodup η hw.nd js hj)
theorem HC.drop {c : Code} (js : List Nat) (hj : js.Nodup) (h : HC P c Q D w0 n σ (js.filterMap fun j => η[j]?)) : HC P c Q D w0 n σ η := ⟨fun a w ha hw => h.out a w ha (hw.pick js hj)⟩
theorem HQ.thenRet {N : Act → World → Prop} (h : HQ Q .ret D w0 n σ η) : HQ (Exit.then N Q) .ret D w0 n σ η := ⟨h.out⟩
theorem HQ.thenExit {N : Act → World → Prop} {i : Nat} (h : HQ Q (.exit i) D w0 n σ η) : HQ (Exit.then N Q) (.exit i) D w0 n σ η := ⟨h.out⟩
theorem HQ.blockRet {i : Nat} (h : HQ Q .ret D w0 n σ η) : HQ (Exit.inBlock i Q) .ret D w0 n σ η := ⟨h.out⟩
theorem HQ.blockNormal {i : Nat} (h : HQ Q .normal D w0 n σ η) : HQ (Exit.inBlock i Q) .normal D w0 n σ η := ⟨h.out⟩
theorem HQ.blockExit {i : Nat} (h : HQ Q .normal D w0 n σ η) : HQ (Exit.inBlock i Q) (.exit i) D w0 n σ η := ⟨fun a w ha hw => by
  simp only [Exit.inBlock, if_true]; exact h.out a w ha hw⟩
theorem HQ.blockOther {i j : Nat} (hn : j ≠ i) (h : HQ Q (.exit j) D w0 n σ η) : HQ (Exit.inBlock i Q) (.exit j) D w0 n σ η := ⟨fun a w ha hw => by
  simp only [Exit.inBlock, hn, if_false]; exact h.out a w ha hw⟩
/-- A region that draws its order: values alone, then operations in one order. -/
theorem HC.draw0 {l : List Oper} {id : Nat} (v : Nat) (hm : P.follows .mixedOrders = true) (hc : regionOk .any l.toArray v 0 = true)
    (h : HV P l.toArray (Hold D w0 η) n (fun a => TailL P l.toArray Q D w0 (l.drop v) a η) (l.take v) σ) : HC P (.region id l.toArray true) Q D w0 n σ η := ⟨fun a _ ha hw =>
  wp_region_H0 v (Hold D w0 η) hm hc (fun _ _ h hb => h.on hb) hw.drew hw (h.out a ha)⟩
theorem HV.tail0 {l : List Oper} (h : HL P ops Q D w0 n l σ η) : HV P ops I n (fun a => TailL P ops Q D w0 l a η) [] σ := ⟨fun a ha w hw => h.out a w ha hw⟩
theorem HC.draw1 {l : List Oper} {id : Nat} (v : Nat) (hm : P.follows .mixedOrders = true) (hc : regionOk .any l.toArray v 1 = true) {o1 : Oper} (ho1 : l[v]? = some o1)
    (h : HV P l.toArray (Hold D w0 η) n (fun a => ∃ ob pv, NewI P l.toArray (Hold D w0 η) o1 ob pv a ∧ ∀ b, w0.heap.size ≤ b → b ∉ η.map Prod.fst → TailL P l.toArray Q D w0 (l.drop (v + 1)) (a.put o1.dst (pv b)) ((b, ob) :: η)) (l.take v) σ) : HC P (.region id l.toArray true) Q D w0 n σ η := ⟨fun a _ ha hw =>
  wp_region_H1 v (Hold D w0 η) hm hc (fun _ _ h hb => h.on hb) hw.drew hw ho1 (h.out a ha)⟩
theorem HV.tail1 {l : List Oper} {ob : Obj} {pv : Nat → Value} (hv : New P n σ I ⟨some d, op, ty, pos, af, none⟩ ob pv) (hd : d < n) (h : ∀ b, w0.heap.size ≤ b → HL P ops Q D w0 n l ((d, pv b) :: σ) ((b, ob) :: η)) :
    HV P ops I n (fun a => ∃ ob pv, NewI P ops I ⟨some d, op, ty, pos, af, none⟩ ob pv a ∧ ∀ b, w0.heap.size ≤ b → b ∉ η.map Prod.fst → TailL P ops Q D w0 l (a.put (some d) (pv b)) ((b, ob) :: η)) [] σ := ⟨fun _ ha =>
  ⟨ob, pv, hv.at ha, fun b hb _ w hw => (h b hb).out _ w (ha.put hd _) hw⟩⟩
theorem HC.draw2 {l : List Oper} {id : Nat} (v : Nat) (hm : P.follows .mixedOrders = true) (hc : regionOk .any l.toArray v 2 = true) {o1 o2 : Oper} (ho1 : l[v]? = some o1) (ho2 : l[v + 1]? = some o2) (hap : o1.apart l.toArray o2 = true)
    (h : HV P l.toArray (Hold D w0 η) n (fun a => ∃ ob pv ob2 pv2, NewI P l.toArray (Hold D w0 η) o1 ob pv a ∧ NewI P l.toArray (Hold D w0 η) o2 ob2 pv2 a ∧ ∀ b b2, w0.heap.size ≤ b → w0.heap.size ≤ b2 → TailL P l.toArray Q D w0 (l.drop (v + 2)) ((a.put o1.dst (pv b)).put o2.dst (pv2 b2)) ((b2, ob2) :: (b, ob) :: η)) (l.take v) σ) : HC P (.region id l.toArray true) Q D w0 n σ η := ⟨fun a _ ha hw =>
  wp_region_H2 v (Hold D w0 η) hm hc (fun _ _ h hb => h.on hb) hw.drew hw ho1 ho2 hap (h.out a ha)⟩
theorem HV.tail2 {l : List Oper} {d2 : Nat} {op2 : Op} {ty2 : TypeId} {pos2 : String} {af2 : Array Edge} {ob ob2 : Obj} {pv pv2 : Nat → Value} (hv : New P n σ I ⟨some d, op, ty, pos, af, none⟩ ob pv) (hv2 : New P n σ I ⟨some d2, op2, ty2, pos2, af2, none⟩ ob2 pv2) (hd : d < n) (hd2 : d2 < n)
    (h : ∀ b b2, w0.heap.size ≤ b → w0.heap.size ≤ b2 → HL P ops Q D w0 n l ((d2, pv2 b2) :: (d, pv b) :: σ) ((b2, ob2) :: (b, ob) :: η)) :
    HV P ops I n (fun a => ∃ ob pv ob2 pv2, NewI P ops I ⟨some d, op, ty, pos, af, none⟩ ob pv a ∧ NewI P ops I ⟨some d2, op2, ty2, pos2, af2, none⟩ ob2 pv2 a ∧ ∀ b b2, w0.heap.size ≤ b → w0.heap.size ≤ b2 → TailL P ops Q D w0 l ((a.put (some d) (pv b)).put (some d2) (pv2 b2)) ((b2, ob2) :: (b, ob) :: η)) [] σ := ⟨fun _ ha =>
  ⟨ob, pv, ob2, pv2, hv.at ha, hv2.at ha, fun b b2 hb hb2 w hw => (h b b2 hb hb2).out _ w ((ha.put hd _).put hd2 _) hw⟩⟩
theorem least {S : Nat → Prop} (h : ∃ m, S m) : ∃ m, S m ∧ ∀ k, k < m → ¬ S k := by
  obtain ⟨m, hm⟩ := h
  induction m using Nat.strongRecOn with
  | _ m ih =>
    by_cases hk : ∃ k, k < m ∧ S k
    · obtain ⟨k, h1, h2⟩ := hk; exact ih k h1 h2
    · exact ⟨m, hm, fun k h1 h2 => hk ⟨k, h1, h2⟩⟩
/-- A loop: a family of states, each of which comes to a lesser one or out. -/
theorem HC.loop {ι : Sort _} {c : Code} (μ : ι → Nat) (σf : ι → List (Nat × Value)) (ηf : ι → List (Nat × Obj)) (i0 : ι) (h0 : ∀ a w, Tm n σ a → Hold D w0 η w → Tm n (σf i0) a ∧ Hold D w0 (ηf i0) w)
    (h : ∀ i, HC P c (Exit.then (fun a w => ∃ j, μ j < μ i ∧ Tm n (σf j) a ∧ Hold D w0 (ηf j) w) Q) D w0 n (σf i) (ηf i)) : HC P (.loop c) Q D w0 n σ η := ⟨fun a w ha hw => by
  let S : Act → World → Nat → Prop := fun a w m => ∃ i, μ i = m ∧ Tm n (σf i) a ∧ Hold D w0 (ηf i) w
  have hmu : ∃ mu : Act → World → Nat, ∀ a w, (∃ m, S a w m) → S a w (mu a w) ∧ ∀ k, k < mu a w → ¬ S a w k := by
    refine ⟨fun a w => open Classical in if hx : ∃ m, S a w m then Classical.choose (least hx) else 0, fun a w hx => ?_⟩
    simp only [hx, dif_pos]
    exact Classical.choose_spec (least hx)
  obtain ⟨mu, hmu⟩ := hmu
  obtain ⟨h1, h2⟩ := h0 a w ha hw
  refine wp_loop (fun a w => ∃ m, S a w m) mu ⟨_, i0, rfl, h1, h2⟩ fun a w hI => ?_
  obtain ⟨i, hi, hia, hiw⟩ := (hmu a w hI).1
  refine Code.wp_mono (fun e a' w' hq => ?_) ((h i).out a w hia hiw)
  cases e <;> try exact hq
  obtain ⟨j, hj, hja, hjw⟩ := hq
  have hS : S a' w' (μ j) := ⟨j, rfl, hja, hjw⟩
  refine ⟨⟨_, hS⟩, ?_⟩
  rcases Nat.lt_or_ge (μ j) (mu a' w') with hlt | hge
  · exact absurd hS ((hmu a' w' ⟨_, hS⟩).2 _ hlt)
  · rw [hi] at hj; exact Nat.lt_of_le_of_lt hge hj⟩
/-- A round's end. -/
theorem HQ.again {ι : Sort _} {μ : ι → Nat} {σf : ι → List (Nat × Value)} {ηf : ι → List (Nat × Obj)} {i : ι} (j : ι) (hj : μ j < μ i) (hs : ∀ p ∈ σf j, σ.lookup p.1 = some p.2) (he : ∀ w, Hold D w0 η w → Hold D w0 (ηf j) w) :
    HQ (Exit.then (fun a w => ∃ j, μ j < μ i ∧ Tm n (σf j) a ∧ Hold D w0 (ηf j) w) Q) .normal D w0 n σ η := ⟨fun _ w ha hw => ⟨j, hj, ha.sub hs, he w hw⟩⟩
end
end Go.Proofs.YteehdjkmjncehaaDoor
