/-
  The symbolic walk: a region that draws its order and holds a call that makes a block; guarded blocks and calls.
-/
import Derived.Test.YtgdfdkpkhjbibaaDoorHV
import Derived.Test.YtgdfdkpkhjbibaaDoorFp2
namespace Go.Proofs.YtgdfdkpkhjbibaaDoor
open Go.RowKit
section
variable {P : Program} {ops : Array Oper} {Q : Exit → Act → World → Prop} {md : Region.Mode} {D : Nat → Bool} {w0 : World} {n : Nat}
/-- What a call may leave: a block, said by its number, its capacity and its cells. -/
abbrev Fam := Nat × Nat × Array Value
/-- The operation is a call that makes a block of a family. -/
def FamI (P : Program) (ops : Array Oper) (I : World → Prop) (o : Oper) (R : Fam → Prop) (ob : Fam → Obj) (pv : Fam → Value) (a : Act) : Prop :=
  Region.wanted o (yielded ops a.tmps) = true ∧ ∀ w, I w → match (execOp a.eval o).run P w with
    | .ok (.enter f args) w' => Calls P f args w' fun e w'' => ∃ r, R r ∧ e = .returned (pv r) ∧ Below w.heap.size w w'' ∧ w.heap.size ≤ r.1 ∧ w''.heap[r.1]? = some (ob r)
    | _ => False
theorem FamI.of_same {I : World → Prop} {o : Oper} {R : Fam → Prop} {ob : Fam → Obj} {pv : Fam → Value} {a a' : Act} (hy : FamI P ops I o R ob pv a) (he : execOp a'.eval o = execOp a.eval o)
    (hw : Region.wanted o (yielded ops a'.tmps) = Region.wanted o (yielded ops a.tmps)) : FamI P ops I o R ob pv a' := by
  unfold FamI at *; rw [he, hw]; exact hy
def StepM (P : Program) (ops : Array Oper) (I : World → Prop) (o : Oper) (a : Act) (η : List (Nat × Obj)) (w0 : World) (K : Act → List (Nat × Obj) → Prop) : Prop :=
  (∃ v, ValI P ops I o v a ∧ K (a.put o.dst v) η) ∨
  (∃ R ob pv, FamI P ops I o R ob pv a ∧ ∀ r, R r → w0.heap.size ≤ r.1 → K (a.put o.dst (pv r)) ((r.1, ob r) :: η))
def wpM (P : Program) (md : Region.Mode) (ops : Array Oper) (I : World → Prop) (w0 : World) (n : Nat) (L : Array Bool → Act → List (Nat × Obj) → Prop) : Nat → Array Bool → Act → List (Nat × Obj) → Prop
  | 0, listed, a, η => L listed a η
  | f + 1, listed, a, η => Region.ready md ops listed ≠ [] ∧ ∀ i ∈ Region.ready md ops listed, i < n ∧ ∃ o, ops[i]? = some o ∧ StepM P ops I o a η w0 (wpM P md ops I w0 n L f (listed.setIfInBounds i true))
theorem StepM.wpOp {I : World → Prop} {i : Nat} {o : Oper} {a : Act} {η : List (Nat × Obj)} {K : Act → List (Nat × Obj) → Prop} {K' : Act → World → Prop} (hi : ops[i]? = some o) (h : StepM P ops I o a η w0 K) {w : World} (hw : Hold D w0 η w) (hI : I w)
    (hK : ∀ a η w', K a η → Hold D w0 η w' → Below w.heap.size w w' → K' a w') : wpOp P ops Q i K' a w := by
  unfold Go.wpOp
  simp only [hi]
  rcases h with ⟨v, hv, hk⟩ | ⟨R, ob, pv, ⟨hwt, hx⟩, hk⟩
  · rcases hv with ⟨hwt, hx⟩ | ⟨hwt, rfl⟩
    · simp only [hwt, if_true]
      refine .inl ?_
      have hv := hx w hI
      clear hx
      unfold Oper.wp
      generalize (execOp a.eval o).run P w = r at *
      cases r with
      | ok nx w' =>
        cases nx <;> simp only [Oper.upon] at hv ⊢
        case value u => exact hv.1 ▸ hK _ _ _ hk (hw.on hv.2) hv.2
        case enter f args =>
          refine hv.mono fun e w'' he => ?_
          obtain ⟨rfl, he⟩ := he
          exact hK _ _ _ hk (hw.on he) he
      | halt x w' => exact hv.elim
    · simp only [hwt, Bool.false_eq_true, if_false]; exact hK _ _ _ hk hw (Below.refl _ _)
  · simp only [hwt, if_true]
    refine .inl ?_
    have hv := hx w hI
    clear hx
    unfold Oper.wp
    generalize (execOp a.eval o).run P w = r at *
    cases r with
    | ok nx w' =>
      cases nx <;> simp only [Oper.upon] at hv ⊢
      case enter f args =>
        refine hv.mono fun e w'' he => ?_
        obtain ⟨r, hr, rfl, hB, hb, ho⟩ := he
        obtain ⟨h1, h2⟩ := hw.extend hb hB ho
        exact hK _ _ _ (hk r hr h1) h2 hB
      all_goals exact hv.elim
    | halt x w' => exact hv.elim
theorem wpAny_of_wpM {I : World → Prop} {m g : Nat} {L : Array Bool → Act → List (Nat × Obj) → Prop} (hIb : ∀ w w', I w → Below w.heap.size w w' → I w')
    (hL : ∀ listed a η, L listed a η → ∀ w, Hold D w0 η w → wpAny P md ops Q g listed a w) :
    ∀ (f : Nat) (listed : Array Bool) (a : Act) (η : List (Nat × Obj)) (w : World), Hold D w0 η w → I w → wpM P md ops I w0 m L f listed a η → wpAny P md ops Q (f + g) listed a w
  | 0, listed, a, η, w, hS, _, h => by rw [Nat.zero_add]; exact hL _ _ _ h _ hS
  | f + 1, listed, a, η, w, hS, hI, h => by
    rw [show f + 1 + g = (f + g) + 1 by omega]
    refine ⟨fun h0 => absurd h0 h.1, fun i hi => ?_⟩
    obtain ⟨_, o, ho, hs⟩ := h.2 i hi
    exact hs.wpOp ho hS hI fun a η w' hk hw hb => wpAny_of_wpM hIb hL f _ a η w' hw (hIb _ _ hI hb) hk
theorem wpM_first {I : World → Prop} {m i : Nat} {oi : Oper} {v : Value} {L : Array Bool → Act → List (Nat × Obj) → Prop} (hi : ops[i]? = some oi) (hsel : ∀ (j : Nat) (o : Oper) cs b, ops[j]? = some o → o.op ≠ .select cs b)
    (hs : Region.sinkB md ops m = true) (hc : Region.chainB md ops m = true) (hn : m < ops.size) (hin : i < m)
    (hdone : ∀ listed a η, L listed a η → ∀ j ∈ Region.ready md ops listed, m ≤ j) :
    ∀ (f : Nat) (listed : Array Bool) (a : Act) (η : List (Nat × Obj)), HeadInv md ops m listed →
      (∀ j oj, ops[j]? = some oj → j ≠ i → listed.getD j true = false → (∀ e ∈ oj.after, Region.binds md e = true → e.on ≠ i) → oi.apart ops oj = true) →
      i ∈ Region.ready md ops listed → ValI P ops I oi v a →
      wpM P md ops I w0 m L f (listed.setIfInBounds i true) (a.put oi.dst v) η → wpM P md ops I w0 m L (f + 1) listed a η := by
  intro f
  induction f with
  | zero =>
    intro listed a η inv _ hr hy H
    have hun := (mem_ready.1 hr).1
    refine ⟨fun h => (by rw [h] at hr; cases hr), fun j hj => ?_⟩
    have hjn : j < m := by
      rcases Nat.lt_or_ge j m with h | h
      · exact h
      · exact absurd hj (tail_waits hs hc hn inv _ i rfl hin hun j h)
    refine ⟨hjn, ?_⟩
    by_cases hji : j = i
    · subst hji; exact ⟨oi, hi, .inl ⟨v, hy, H⟩⟩
    · have := hdone _ _ _ H j (ready_mono hj hji)
      omega
  | succ f ih =>
    intro listed a η inv hfree hr hy H
    have hun := (mem_ready.1 hr).1
    refine ⟨fun h => (by rw [h] at hr; cases hr), fun j hj => ?_⟩
    have hjn : j < m := by
      rcases Nat.lt_or_ge j m with h | h
      · exact h
      · exact absurd hj (tail_waits hs hc hn inv _ i rfl hin hun j h)
    refine ⟨hjn, ?_⟩
    by_cases hji : j = i
    · subst hji; exact ⟨oi, hi, .inl ⟨v, hy, H⟩⟩
    · obtain ⟨_, oj, hoj, hst⟩ := H.2 j (ready_mono hj hji)
      obtain ⟨hjun, oj', hoj', hall⟩ := mem_ready.1 hj
      obtain rfl : oj' = oj := by rw [hoj] at hoj'; exact (Option.some.inj hoj').symm
      have hnot : ∀ e ∈ oj'.after, Region.binds md e = true → e.on ≠ i := fun e he hb heq => by
        have h1 := hall e he hb
        rw [heq, getD_both hun] at h1
        cases h1
      obtain ⟨h1, h2, h3⟩ := Oper.apart_spec (hfree j oj' hoj hji hjun hnot)
      have hsi := fun cs b => hsel i oi cs b hi
      have hsj := fun cs b => hsel j oj' cs b hoj
      have e1 := (execOp_put oj' hsj a oi.dst v h1).symm
      have e2 := (wanted_put oj' a oi.dst v h1).symm
      have hyi : ∀ u, ValI P ops I oi v (a.put oj'.dst u) := fun u => hy.of_same (execOp_put oi hsi a oj'.dst u h3) (wanted_put oi a oj'.dst u h3)
      have fin : ∀ u η', wpM P md ops I w0 m L f ((listed.setIfInBounds i true).setIfInBounds j true) ((a.put oi.dst v).put oj'.dst u) η' → wpM P md ops I w0 m L (f + 1) (listed.setIfInBounds j true) (a.put oj'.dst u) η' := fun u η' hx => by
        refine ih _ _ _ (inv.set hj hjn) (fun k ok hk hki hun hno => ?_) (ready_mono hr (Ne.symm hji)) (hyi u) ?_
        · refine hfree k ok hk hki ?_ hno
          by_cases hjk : j = k
          · subst hjk; exact hjun
          · rw [getD_set_ne true hjk] at hun; exact hun
        · rw [Array.setIfInBounds_comm _ _ hji, ← Act.put_comm a v u h2]
          exact hx
      refine ⟨oj', hoj, ?_⟩
      rcases hst with ⟨u, hv, hk⟩ | ⟨R, ob, pv, hn, hk⟩
      · exact .inl ⟨u, hv.of_same e1 e2, fin u η hk⟩
      · exact .inr ⟨R, ob, pv, hn.of_same e1 e2, fun r hr hb => fin _ _ (hk r hr hb)⟩
/-- The operations of perm may be drawn in this order; behind them what is ready is r. -/
def headOkP (md : Region.Mode) (ops : Array Oper) (r : Array Bool → Bool) (m : Nat) : List Nat → Array Bool → Bool
  | [], listed => r listed
  | k :: ks, listed => decide (k < m) && (Region.ready md ops listed).contains k && Region.free md ops listed k && headOkP md ops r m ks (listed.setIfInBounds k true)
/-- The operations of perm tell values, then operation k alone is ready, and from m on there is one order. -/
def regionOkP (md : Region.Mode) (ops : Array Oper) (perm : List Nat) (k m : Nat) : Bool :=
  Region.noSelect ops && decide (m < ops.size) && decide (k < m) && decide (perm.length + 1 = m) && Region.sinkB md ops m && Region.chainB md ops m &&
  headOkP md ops (fun listed => decide (Region.ready md ops listed = [k]) && Region.seqB md ops (ops.size - m) m (listed.setIfInBounds k true)) m perm (Array.replicate ops.size false)
theorem wpM_lex {I : World → Prop} {m : Nat} {r : Array Bool → Bool} {L : Array Bool → Act → List (Nat × Obj) → Prop} {g : Nat} {K : Act → Prop} {η : List (Nat × Obj)} (hsel : Region.noSelect ops = true) (hs : Region.sinkB md ops m = true) (hc : Region.chainB md ops m = true) (hn : m < ops.size)
    (hdone : ∀ listed a η, L listed a η → ∀ j ∈ Region.ready md ops listed, m ≤ j)
    (hL : ∀ listed a, HeadInv md ops m listed → r listed = true → K a → wpM P md ops I w0 m L g listed a η) :
    ∀ (perm : List Nat) (l : List Oper) (listed : Array Bool) (a : Act), perm.map (fun k => ops[k]?) = l.map some → HeadInv md ops m listed →
    headOkP md ops r m perm listed = true → wpVI P ops I K l a → wpM P md ops I w0 m L (perm.length + g) listed a η
  | [], [], listed, a, _, inv, hB, h => by rw [List.length_nil, Nat.zero_add]; exact hL _ _ inv hB h
  | [], _ :: _, _, _, he, _, _, _ => by simp at he
  | _ :: _, [], _, _, he, _, _, _ => by simp at he
  | k :: ks, o :: l, listed, a, he, inv, hB, h => by
    simp only [List.map_cons, List.cons.injEq] at he
    simp only [headOkP, Bool.and_eq_true, decide_eq_true_eq] at hB
    obtain ⟨⟨⟨hkn, hr⟩, hf⟩, hB'⟩ := hB
    have hr' : k ∈ Region.ready md ops listed := by simpa using hr
    obtain ⟨v, hy, h⟩ := h
    rw [List.length_cons, show ks.length + 1 + g = (ks.length + g) + 1 by omega]
    refine wpM_first he.1 (Region.noSelect_spec hsel) hs hc hn hkn hdone (ks.length + g) listed a η inv (Region.free_spec he.1 hf) hr' hy ?_
    exact wpM_lex hsel hs hc hn hdone hL ks l _ _ he.2 (inv.set hr' hkn) hB' h
/-- **A REGION THAT DRAWS ITS ORDER: VALUES, THEN A CALL THAT MAKES A BLOCK, THEN OPERATIONS IN ONE ORDER.** -/
theorem wp_region_F {l : List Oper} {id : Nat} {a : Act} {w : World} {η : List (Nat × Obj)} (perm : List Nat) (k m : Nat) (lp : List Oper) (I : World → Prop) (hm : P.follows .mixedOrders = true) (hc : regionOkP .any l.toArray perm k m = true) (hlp : perm.map (fun k => l.toArray[k]?) = lp.map some)
    (hIb : ∀ w w', I w → Below w.heap.size w w' → I w') (hI : I w.drew) (hw : Hold D w0 η w) {ok : Oper} (hok : l[k]? = some ok)
    (h : wpVI P l.toArray I (fun a => ∃ R ob pv, FamI P l.toArray I ok R ob pv a ∧ ∀ r, R r → w0.heap.size ≤ r.1 → TailL P l.toArray Q D w0 (l.drop m) (a.put ok.dst (pv r)) ((r.1, ob r) :: η)) lp a) : (Code.region id l.toArray true).wp P Q a w := by
  simp only [regionOkP, Bool.and_eq_true, decide_eq_true_eq, List.size_toArray] at hc
  obtain ⟨⟨⟨⟨⟨⟨h1, h2⟩, hkm⟩, hpl⟩, h3⟩, h4⟩, h5⟩ := hc
  have hsz : l.toArray.size = l.length := List.size_toArray
  have hd : (l.drop m).length = l.length - m := by rw [List.length_drop]
  refine wp_region_any hm ?_
  have := wpAny_of_wpM (P := P) (Q := Q) (D := D) (w0 := w0) (md := .any) (ops := l.toArray) (m := m) (g := (l.drop m).length) (I := I) (L := fun listed a η => Region.seqB .any l.toArray (l.drop m).length m listed = true ∧ TailL P l.toArray Q D w0 (l.drop m) a η) hIb
    (fun listed a η hL w hS => wpAny_of_seq (l.drop m) m listed a w (fun j => by simp) hL.1 (hL.2 w hS)) m (Array.replicate l.toArray.size false) a η w.drew hw.drew hI ?_
  · rw [show m + (l.drop m).length = l.toArray.size by rw [hd, hsz]; omega] at this
    exact this
  · have hx := wpM_lex (P := P) (w0 := w0) (I := I) (md := .any) (ops := l.toArray) (m := m) (g := 1) (η := η) (L := fun listed a η => Region.seqB .any l.toArray (l.drop m).length m listed = true ∧ TailL P l.toArray Q D w0 (l.drop m) a η) h1 h3 h4 (by rw [hsz]; exact h2)
      (fun listed a η hL => seqB_ready hL.1)
      (r := fun listed => decide (Region.ready .any l.toArray listed = [k]) && Region.seqB .any l.toArray (l.length - m) m (listed.setIfInBounds k true))
      (fun listed a _ hr hK => by
        simp only [Bool.and_eq_true, decide_eq_true_eq] at hr
        obtain ⟨R, ob, pv, hn, hk⟩ := hK
        refine ⟨(by rw [hr.1]; simp), fun i hi => ?_⟩
        rw [hr.1] at hi
        obtain rfl : i = k := by simpa using hi
        exact ⟨hkm, ok, by simpa using hok, .inr ⟨R, ob, pv, hn, fun r hr2 hb => ⟨by rw [hd]; exact hr.2, hk r hr2 hb⟩⟩⟩) perm lp (Array.replicate l.toArray.size false) a hlp (inv0 _ _) (by rw [hsz]; exact h5) h
    rw [show m = perm.length + 1 from hpl.symm]
    rw [show m = perm.length + 1 from hpl.symm] at hx
    exact hx
end
section
variable {P : Program} {ops : Array Oper} {Q : Exit → Act → World → Prop} {D : Nat → Bool} {w0 : World} {n : Nat} {σ : List (Nat × Value)} {η : List (Nat × Obj)} {I : World → Prop}
  {dst : Option Tmp} {ty : TypeId} {pos : String} {af : Array Edge} {gd : Option (Nat × Bool)} {rest : List Oper} {op : Op} {d : Nat} {v : Value}
/-- A call that makes a block of a family. -/
structure FamV (P : Program) (n : Nat) (σ : List (Nat × Value)) (I : World → Prop) (o : Oper) (R : Fam → Prop) (ob : Fam → Obj) (pv : Fam → Value) : Prop where
  out : ∀ a w, Tm n σ a → I w → match (execOp a.eval o).run P w with
    | .ok (.enter f args) w' => Calls P f args w' fun e w'' => ∃ r, R r ∧ e = .returned (pv r) ∧ Below w.heap.size w w'' ∧ w.heap.size ≤ r.1 ∧ w''.heap[r.1]? = some (ob r)
    | _ => False
theorem FamV.call {xs : Array Operand} {ats : Array TypeId} {f : FuncId} {args : List Value} {R : Fam → Prop} {ob : Fam → Obj} {pv : Fam → Value} (he : Enters P f)
    (hf : ∀ w, I w → Calls P f args.toArray w fun e w' => ∃ r, R r ∧ e = .returned (pv r) ∧ Below w.heap.size w w' ∧ w.heap.size ≤ r.1 ∧ w'.heap[r.1]? = some (ob r)) (hx : xs.toList.mapM (evS σ) = some args) :
    FamV P n σ I ⟨dst, .call { callee := .value (.func f), args := xs, argTypes := ats }, ty, pos, af, gd⟩ R ob pv := ⟨fun a w ha hw => by
  have hm : xs.map a.eval = args.toArray := by
    apply Array.toList_inj.1
    rw [Array.toList_map]; exact mapM_ev1 ha _ _ hx
  have e : execOp a.eval ⟨dst, .call { callee := .value (.func f), args := xs, argTypes := ats }, ty, pos, af, gd⟩ = callFunc f (#[] ++ xs.map a.eval ++ #[]) := rfl
  rw [e, hm, he]
  simp only [Array.empty_append, Array.append_empty]
  exact hf w hw⟩
theorem HL.fam {R : Fam → Prop} {ob : Fam → Obj} {pv : Fam → Value} (hv : FamV P n σ (Hold D w0 η) ⟨some d, op, ty, pos, af, gd⟩ R ob pv) (hg : ∀ g, gd = some g → wantB ops σ g = some true) (hd : d < n)
    (h : ∀ b c cs, R (b, c, cs) → w0.heap.size ≤ b → HL P ops Q D w0 n rest ((d, pv (b, c, cs)) :: σ) ((b, ob (b, c, cs)) :: η)) : HL P ops Q D w0 n (⟨some d, op, ty, pos, af, gd⟩ :: rest) σ η := ⟨fun a w ha hw => by
  have hwt : Region.wanted ⟨some d, op, ty, pos, af, gd⟩ (yielded ops a.tmps) = true := by
    cases gd with
    | none => simp [Region.wanted]
    | some g => exact wanted_of (hg g rfl) ha
  unfold wpList
  rw [if_pos hwt]
  refine .inl ?_
  have hv := hv.out a w ha hw
  unfold Oper.wp
  generalize (execOp a.eval _).run P w = r at *
  cases r with
  | ok nx w' =>
    cases nx <;> simp only [Oper.upon] at hv ⊢
    case enter f args =>
      refine hv.mono fun e w'' he => ?_
      obtain ⟨⟨b, c, cs⟩, hr, rfl, hB, hb, ho⟩ := he
      obtain ⟨h1, h2⟩ := hw.extend hb hB ho
      exact (h b c cs hr h1).out _ _ (ha.put hd _) h2
    all_goals exact hv.elim
  | halt x w' => exact hv.elim⟩
theorem HL.newg {g : Nat × Bool} {ob : Obj} {pv : Nat → Value} (hg : wantB ops σ g = some true) (hv : New P n σ (Hold D w0 η) ⟨some d, op, ty, pos, af, some g⟩ ob pv) (hd : d < n) (h : ∀ b, w0.heap.size ≤ b → HL P ops Q D w0 n rest ((d, pv b) :: σ) ((b, ob) :: η)) : HL P ops Q D w0 n (⟨some d, op, ty, pos, af, some g⟩ :: rest) σ η := ⟨fun a w ha hw => by
  unfold wpList
  rw [if_pos (wanted_of hg ha)]
  refine .inl ?_
  unfold Oper.wp
  rw [hv.out a w ha hw]
  obtain ⟨h1, h2⟩ := hw.alloc ob
  exact (h _ h1).out _ _ (ha.put hd _) h2⟩
theorem HC.drawF {l : List Oper} {id : Nat} (perm : List Nat) (k m : Nat) (lp : List Oper) (hm : P.follows .mixedOrders = true) (hc : regionOkP .any l.toArray perm k m = true) (hlp : perm.map (fun k => l.toArray[k]?) = lp.map some) {ok : Oper} (hok : l[k]? = some ok)
    (h : HV P l.toArray (Hold D w0 η) n (fun a => ∃ R ob pv, FamI P l.toArray (Hold D w0 η) ok R ob pv a ∧ ∀ r, R r → w0.heap.size ≤ r.1 → TailL P l.toArray Q D w0 (l.drop m) (a.put ok.dst (pv r)) ((r.1, ob r) :: η)) lp σ) : HC P (.region id l.toArray true) Q D w0 n σ η := ⟨fun a _ ha hw =>
  wp_region_F perm k m lp (Hold D w0 η) hm hc hlp (fun _ _ h hb => h.on hb) hw.drew hw hok (h.out a ha)⟩
theorem HC.drawK {l : List Oper} {id : Nat} (perm : List Nat) (k m : Nat) (hm : P.follows .mixedOrders = true) (hc : regionOkP .any l.toArray perm k m = true) (hlp : perm.map (fun k => l.toArray[k]?) = (l.take k ++ (l.take m).drop (k + 1)).map some) {ok : Oper} (hok : l[k]? = some ok)
    (h : HV P l.toArray (Hold D w0 η) n (fun a => ∃ R ob pv, FamI P l.toArray (Hold D w0 η) ok R ob pv a ∧ ∀ r, R r → w0.heap.size ≤ r.1 → TailL P l.toArray Q D w0 (l.drop m) (a.put ok.dst (pv r)) ((r.1, ob r) :: η)) (l.take k ++ (l.take m).drop (k + 1)) σ) : HC P (.region id l.toArray true) Q D w0 n σ η := HC.drawF perm k m _ hm hc hlp hok h
theorem HV.tailF {l : List Oper} {R : Fam → Prop} {ob : Fam → Obj} {pv : Fam → Value} (hg : ∀ g, gd = some g → wantB ops σ g = some true) (hv : FamV P n σ I ⟨some d, op, ty, pos, af, gd⟩ R ob pv) (hd : d < n)
    (h : ∀ b c cs, R (b, c, cs) → w0.heap.size ≤ b → HL P ops Q D w0 n l ((d, pv (b, c, cs)) :: σ) ((b, ob (b, c, cs)) :: η)) :
    HV P ops I n (fun a => ∃ R ob pv, FamI P ops I ⟨some d, op, ty, pos, af, gd⟩ R ob pv a ∧ ∀ r, R r → w0.heap.size ≤ r.1 → TailL P ops Q D w0 l (a.put (some d) (pv r)) ((r.1, ob r) :: η)) [] σ := ⟨fun a ha =>
  ⟨R, ob, pv, ⟨by
    cases gd with
    | none => simp [Region.wanted]
    | some g => exact wanted_of (hg g rfl) ha, fun w hI => hv.out a w ha hI⟩, fun ⟨b, c, cs⟩ hr hb w hw => (h b c cs hr hb).out _ w (ha.put hd _) hw⟩⟩
end
end Go.Proofs.YtgdfdkpkhjbibaaDoor
