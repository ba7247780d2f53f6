/-
  The symbolic walk: slices.
-/
import Derived.Test.YteehdjkmjncehaaH3
import Derived.Laws.CopyOwn
namespace Go.Proofs.Yteehdjkmjncehaa
open Go.RowKit
section
variable {P : Program} {ops : Array Oper} {Q : Exit → Act → World → Prop} {D : Nat → Bool} {w0 : World} {n : Nat} {σ : List (Nat × Value)} {η : List (Nat × Obj)} {I : World → Prop} {dst : Option Tmp} {ty : TypeId} {pos : String} {af : Array Edge} {gd : Option (Nat × Bool)} {rest : List Oper} {v : Value} {t e : TypeId}
theorem size_of {e : TypeId} {s : Nat} (hs : (P.info? e).map (·.size) = some s) (w : World) : (sizeOf e).run P w = .ok s w := by
  cases hq : P.info? e with
  | none => simp [hq] at hs
  | some i => simp [hq] at hs; simp [sizeOf, typeInfo, hq, hs]
/-- An array's variable as a slice, whole. -/
theorem Val.sliceAll {x : Operand} {m s b q : Nat} (hx : evS σ x = some (.pointer (some ⟨b, q, none⟩))) (hu : P.underlying t = some (.array m e)) (hs : (P.info? e).map (·.size) = some s) : Val P n σ I ⟨dst, .slice t x none none none, ty, pos, af, gd⟩ (.slice (some ⟨b, q, none⟩) m m) := .of_run fun a w ha _ => by
  have h1 := ha.eval hx
  have ha : P.arrayLen t = m := by simp [Program.arrayLen, hu]
  have he : P.elem t = e := by simp [Program.elem, hu]
  unfold execOp
  simp only [h1, Option.map_none, Sem.run_bind, run_sliceAt_array_all (P := P) w t ⟨b, q, none⟩ (by rw [ha, he]; exact hu), he, size_of hs w, Result.andThen_ok, slicedAt, ha]
  by_cases hm : m = 0
  · subst hm; simp
  · simp [hm, Addr.add_lit]
/-- .. up to a number. -/
theorem Val.sliceTo {x y : Operand} {m s b q h : Nat} {k : IntKind} (hx : evS σ x = some (.pointer (some ⟨b, q, none⟩))) (hy : evS σ y = some (.int k (h : Int))) (hu : P.underlying t = some (.array m e)) (hs : (P.info? e).map (·.size) = some s) (hh : h ≤ m) : Val P n σ I ⟨dst, .slice t x none (some y) none, ty, pos, af, gd⟩ (.slice (some ⟨b, q, none⟩) h m) := .of_run fun a w ha _ => by
  have h1 := ha.eval hx
  have h2 := ha.eval hy
  have ha : P.arrayLen t = m := by simp [Program.arrayLen, hu]
  have he : P.elem t = e := by simp [Program.elem, hu]
  unfold execOp
  simp only [h1, Option.map_none, Option.map_some, h2, Sem.run_bind, run_sliceAt_array_h (P := P) w t ⟨b, q, none⟩ (by rw [ha, he]; exact hu) k h (by omega) (by rw [ha]; omega), he, size_of hs w, Result.andThen_ok, slicedAt, ha]
  by_cases hm : m = 0
  · subst hm; simp
  · simp [hm, Addr.add_lit]
/-- .. from a number below its length. -/
theorem Val.sliceFrom {x y : Operand} {m s b q l : Nat} {k : IntKind} (q' : Nat) (hx : evS σ x = some (.pointer (some ⟨b, q, none⟩))) (hy : evS σ y = some (.int k (l : Int))) (hu : P.underlying t = some (.array m e)) (hs : (P.info? e).map (·.size) = some s) (hl : l < m) (hq : q + l * s = q') : Val P n σ I ⟨dst, .slice t x (some y) none none, ty, pos, af, gd⟩ (.slice (some ⟨b, q', none⟩) (m - l) (m - l)) := .of_run fun a w ha _ => by
  subst hq
  have h1 := ha.eval hx
  have h2 := ha.eval hy
  have ha : P.arrayLen t = m := by simp [Program.arrayLen, hu]
  have he : P.elem t = e := by simp [Program.elem, hu]
  unfold execOp
  simp only [h1, Option.map_none, Option.map_some, h2, Sem.run_bind, run_sliceAt_array_l (P := P) w t ⟨b, q, none⟩ (by rw [ha, he]; exact hu) k l (by omega) (by rw [ha]; omega), he, size_of hs w, Result.andThen_ok, slicedAt, ha, Int.toNat_natCast]
  rw [if_neg (by omega)]
  simp [Addr.add_lit]
/-- A slice's length. -/
theorem Val.lenS {x : Operand} {ad : Option Addr} {l c : Nat} {ats : Array TypeId} (hx : evS σ x = some (.slice ad l c)) (ha : ats = #[t]) (hu : P.underlying t = some (.slice e)) : Val P n σ I ⟨dst, .call { callee := .builtin .len, args := #[x], argTypes := ats }, ty, pos, af, gd⟩ (.int .i64 (l : Int)) := .of_run fun a w hac _ => by
  subst ha
  have h1 := hac.eval hx
  have he : P.elem t = e := by simp [Program.elem, hu]
  have := run_len_slice (P := P) w t ty ad l c (by rw [he]; exact hu)
  simp [execOp, resolve, invoke, builtin, h1, this, goInt]
/-- The array behind a slice. -/
theorem Val.arrPtr {x : Operand} {ad : Option Addr} {l c m : Nat} (hx : evS σ x = some (.slice ad l c)) (hu : P.underlying t = some (.array m e)) (hl : m ≤ l) : Val P n σ I ⟨dst, .sliceToArrayPointer t x, ty, pos, af, gd⟩ (.pointer ad) :=
  .run1 (fun u => Instr.arrayAt t u) (fun _ => rfl) hx (fun w _ => by
    simp [Instr.arrayAt, run_underlying hu w]; omega)
/-- The address of a slice's element. -/
theorem Val.ixSlice {x y : Operand} {k : IntKind} {s b q l c i : Nat} (q' : Nat) (hx : evS σ x = some (.slice (some ⟨b, q, none⟩) l c)) (hy : evS σ y = some (.int k (i : Int))) (hu : P.underlying t = some (.slice e)) (hs : (P.info? e).map (·.size) = some s) (hi : i < l) (hq : q + i * s = q') :
    Val P n σ I ⟨dst, .indexAddr t x y, ty, pos, af, gd⟩ (.pointer (some ⟨b, q', none⟩)) := .of_run fun a w ha _ => by
  subst hq
  have h1 := ha.eval hx
  have h2 := ha.eval hy
  have he : P.elem t = e := by simp [Program.elem, hu]
  unfold execOp
  simp only [h1, h2, Sem.run_bind, run_indexAt_slice (P := P) w t ⟨b, q, none⟩ l c k i (by rw [he]; exact hu), he, size_of hs w]
  rw [if_pos ⟨by omega, by omega⟩]
  simp [Addr.add_lit]
/-- An element of an array's value: one cell. -/
theorem Val.index1 {x y : Operand} {k k' : IntKind} {m i : Nat} {cs : Array Value} (hx : evS σ x = some (.agg cs)) (hy : evS σ y = some (.int k (i : Int))) (hu : P.underlying t = some (.array m e)) (he : P.underlying e = some (.int k')) (hs : (P.info? e).map (·.size) = some 1) (hi : i < m) (hv : cs[i]? = some v) :
    Val P n σ I ⟨dst, .index t x y, ty, pos, af, gd⟩ v := .of_run fun a w ha _ => by
  have h1 := ha.eval hx
  have h2 := ha.eval hy
  have hel : P.elem t = e := by simp [Program.elem, hu]
  have hp : (part e cs i).run P w = .ok v w := run_part_one e k' he cs i v hv w
  unfold execOp
  simp [h1, h2, Instr.index, run_underlying hu w, asIntOf, hi, size_of hs w, hp]
/-- The copy of a whole array's bytes. -/
theorem HL.copyAll {x y : Operand} {d : Nat} {dT sT : TypeId} (i : Nat) {g c b q c' m : Nat} {cur : Array Value} {T : TypeId} (cs : Array Value) (hx : evS σ x = some (.slice (some ⟨g, 0, none⟩) m c)) (hy : evS σ y = some (.slice (some ⟨b, q, none⟩) m c')) (hu : P.underlying dT = some (.slice e)) (hs : (P.info? e).map (·.size) = some 1)
    (hi : η[i]? = some (g, .cells cur T (0, 0))) (h1 : cur.size = m) (h2 : cs.size = m) (hsrc : ∀ w, Hold D w0 η w → ∀ j v, cs[j]? = some v → w.cell? ⟨b, q + j, none⟩ = some v) (ho : ∀ v ∈ cs, v.oneCell' = true) (hD : w0.heap.size ≤ g ∨ D g = true) (hd : d < n)
    (h : HL P ops Q D w0 n rest ((d, .int .i64 (m : Int)) :: σ) (η.set i (g, .cells cs T (0, 0)))) : HL P ops Q D w0 n (⟨some d, .call { callee := .builtin .copy, args := #[x, y], argTypes := #[dT, sT] }, ty, pos, af, none⟩ :: rest) σ η := ⟨fun a w ha hw => by
  have hg := hw.at hi
  refine wpList_copy_own rfl x y dT sT rfl e hu hs g 0 m c ⟨b, q, none⟩ m c' (ha.eval hx) (ha.eval hy) cur T hg cs.toList (by simp [h2]) (fun j v hj => by
    rw [Addr.add_mid]; exact hsrc w hw j v (by simpa using hj)) (by simp; omega) (fun v hv => ho v (by simpa using hv)) ?_
  have e : (List.take 0 cur.toList ++ (cs.toList ++ List.drop (0 + cs.toList.length) cur.toList)).toArray = cs := by
    apply Array.toList_inj.1
    have hl : cur.toList.length ≤ 0 + cs.toList.length := by simp; omega
    rw [List.drop_eq_nil_of_le hl]
    simp
  rw [e]
  have hlen : goInt cs.toList.length = .int .i64 (m : Int) := by simp [goInt, h2]
  rw [hlen]
  exact h.out _ _ (ha.put hd _) (hw.put hi hD rfl rfl rfl (by simp) (fun k _ hk => setRow_other w g k cs hk) (setRow_heap w g cur cs T (0, 0) hg))⟩
end
end Go.Proofs.Yteehdjkmjncehaa
