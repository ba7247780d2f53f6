/-
  The symbolic walk: a region that draws its order, order by order.
-/
import Derived.Test.YtgdfdkpkhjbibaaDoorHF
namespace Go.Proofs.YtgdfdkpkhjbibaaDoor
open Go.RowKit
section
variable {P : Program} {ops : Array Oper} {Q : Exit → Act → World → Prop} {D : Nat → Bool} {w0 : World} {n f : Nat} {listed : Array Bool} {σ : List (Nat × Value)} {η : List (Nat × Obj)}
/-- What is left of a region, in any order. -/
structure HA (P : Program) (ops : Array Oper) (Q : Exit → Act → World → Prop) (D : Nat → Bool) (w0 : World) (n f : Nat) (listed : Array Bool) (σ : List (Nat × Value)) (η : List (Nat × Obj)) : Prop where
  out : ∀ a w, Tm n σ a → Hold D w0 η w → wpAny P .any ops Q f listed a w
/-- No panic. -/
def NoP (Q : Exit → Act → World → Prop) (e : Exit) (a : Act) (w : World) : Prop := (∀ c, e ≠ .panic c) ∧ Q e a w
/-- Behind an operation there goes on K. -/
def Nxt (Q : Exit → Act → World → Prop) (K : Act → World → Prop) : Exit → Act → World → Prop
  | .normal, a, w => K a w
  | e, a, w => Q e a w
theorem HC.drawA {l : List Oper} {id : Nat} (hm : P.follows .mixedOrders = true) (h : HA P l.toArray (NoP Q) D w0 n l.length (Array.replicate l.length false) σ η) : HC P (.region id l.toArray true) Q D w0 n σ η := ⟨fun a w ha hw => by
  refine Code.wp_mono (Q := NoP Q) (fun e a w h => h.2) ?_
  refine wp_region_any hm ?_
  have := h.out a w.drew ha hw.drew
  rw [List.size_toArray]
  exact this⟩
theorem HA.takeMove {i d : Nat} {x : Operand} {v : Value} {ty : TypeId} {pos : String} {af : Array Edge} (hi : ops[i]? = some ⟨some d, .move x, ty, pos, af, none⟩) (hB : (Region.noSelect ops && Region.free .any ops listed i && (Region.ready .any ops listed).contains i) = true) (hx : evS σ x = some v) (hd : d < n)
    (h : HA P ops (NoP Q) D w0 n f (listed.setIfInBounds i true) ((d, v) :: σ) η) : HA P ops (NoP Q) D w0 n (f + 1) listed σ η := ⟨fun a w ha hw => by
  simp only [Bool.and_eq_true] at hB
  refine wpAny_take hi hB.1.1 hB.1.2 hB.2 (fun c a w h => absurd rfl (h.1 c)) (v := v) (.inl ⟨by simp [Region.wanted], fun w => ?_⟩) (h.out _ _ (ha.put hd v) hw)
  have e := ha.eval hx
  unfold execOp
  simp [e]⟩
theorem wpOp_of_list {i : Nat} {o : Oper} {K : Act → World → Prop} {a : Act} {w : World} (hi : ops[i]? = some o) (h : wpList P ops (Nxt Q K) [o] a w) : wpOp P ops Q i K a w := by
  unfold Go.wpOp
  simp only [hi]
  unfold wpList at h
  have hn : ∀ a w, wpList P ops (Nxt Q K) [] a w → K a w := fun a w h => by simpa [wpList, Nxt] using h
  split
  · rename_i hw
    rw [if_pos hw] at h
    rcases h with h | h
    · refine .inl ?_
      have h := Oper.wp_mono hn h
      unfold Oper.wp at *
      generalize (execOp a.eval o).run P w = r at *
      cases r with
      | ok nx w' => cases nx <;> simp only [Oper.upon] at h ⊢ <;> first | exact h | exact Calls.mono h (fun e w'' he => by cases e <;> exact he)
      | halt x w' => cases x <;> simp only [Oper.upon] at h ⊢ <;> exact h
    · exact .inr h
  · rename_i hw
    rw [if_neg hw] at h
    exact hn _ _ h
theorem HA.one {i : Nat} {o : Oper} (hB : decide (Region.ready .any ops listed = [i]) = true) (ho : ops[i]? = some o) (h : HL P ops (Nxt Q (wpAny P .any ops Q f (listed.setIfInBounds i true))) D w0 n [o] σ η) : HA P ops Q D w0 n (f + 1) listed σ η := ⟨fun a w ha hw =>
  wpAny_all (of_decide_eq_true hB) (by simp) (fun j hj => by
    obtain rfl : j = i := by simpa using hj
    exact wpOp_of_list ho (h.out a w ha hw))⟩
theorem HA.two {i j : Nat} {o p : Oper} (hB : decide (Region.ready .any ops listed = [i, j]) = true) (ho : ops[i]? = some o) (hp : ops[j]? = some p) (h : HL P ops (Nxt Q (wpAny P .any ops Q f (listed.setIfInBounds i true))) D w0 n [o] σ η)
    (h2 : HL P ops (Nxt Q (wpAny P .any ops Q f (listed.setIfInBounds j true))) D w0 n [p] σ η) : HA P ops Q D w0 n (f + 1) listed σ η := ⟨fun a w ha hw =>
  wpAny_all (of_decide_eq_true hB) (by simp) (fun k hk => by
    rcases (show k = i ∨ k = j by simpa using hk) with rfl | rfl
    · exact wpOp_of_list ho (h.out a w ha hw)
    · exact wpOp_of_list hp (h2.out a w ha hw))⟩
theorem HL.thenA (h : HA P ops Q D w0 n f listed σ η) : HL P ops (Nxt Q (wpAny P .any ops Q f listed)) D w0 n [] σ η := ⟨fun a w ha hw => wpList_nil (h.out a w ha hw)⟩
theorem HA.seq {l : List Oper} (k : Nat) (hl : ∀ j, l[j]? = ops[k + j]?) (hf : l.length = f) (hB : Region.seqB .any ops f k listed = true) (h : HL P ops Q D w0 n l σ η) : HA P ops Q D w0 n f listed σ η := ⟨fun a w ha hw => by
  subst hf
  exact wpAny_of_seq l k listed a w hl hB (h.out a w ha hw)⟩
theorem HQ.noP (h : HQ Q .normal D w0 n σ η) : HQ (NoP Q) .normal D w0 n σ η := ⟨fun a w ha hw => ⟨(fun _ e => by cases e), h.out a w ha hw⟩⟩
end
end Go.Proofs.YtgdfdkpkhjbibaaDoor
