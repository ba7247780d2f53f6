/-
  The symbolic walk: strings of bytes, errors, slices made, copies into slices.
-/
import Derived.Test.YteehdjkmjncehaaHX
import Derived.Laws.BytesArg
import Derived.Laws.MakeOwn
namespace Go.Proofs.Yteehdjkmjncehaa
open Go.RowKit
section
variable {P : Program} {D : Nat → Bool} {w0 : World} {n : Nat} {σ : List (Nat × Value)} {η : List (Nat × Obj)} {I : World → Prop} {dst : Option Tmp} {ty : TypeId} {pos : String} {af : Array Edge} {gd : Option (Nat × Bool)} {t t2 e src u : TypeId} {x y : Operand} {v : Value} {k k2 : IntKind}
theorem Val.strOf {b o l c : Nat} (xs : List Int)
    (hx : evS σ x = some (.slice (some ⟨b, o, none⟩) l c)) (hs : P.underlying src = some (.slice e)) (he : P.underlying e = some (.int .u8)) (hd : P.underlying t = some .string) (hl : xs.length = l)
    (hc : ∀ w, I w → ∀ i, i < l → w.cell? ⟨b, o + i, none⟩ = some (.int .u8 (xs.getD i 0))) :
    Val P n σ I ⟨dst, .convert src t x, ty, pos, af, gd⟩ (.string (strOfNums xs)) := .of_run fun a w ha hI => by
  have h1 := ha.eval hx
  have h2 := run_convert_bytes_arg w src e hs he b o l c xs hl (hc w hI) t hd
  unfold execOp
  simp [h1, h2]
theorem Val.eqlStr {s s' : ByteArray} (hx : evS σ x = some (.string s)) (hy : evS σ y = some (.string s')) :
    Val P n σ I ⟨dst, .binOp .eql t x y t2, ty, pos, af, gd⟩ (.bool (s.toList == s'.toList)) := .bin hx hy (by rfl) (fun w => by
  simp only [binOp, Op.stringOp, Sem.run_pure])
theorem Val.notNil (hx : evS σ x = some (.iface u v)) (hu : P.underlying t = some (.interface (P.methodsAt t))) :
    Val P n σ I ⟨dst, .binOp .neq t x (.const .nilIface) t2, ty, pos, af, gd⟩ (.bool true) := .bin hx rfl (by rfl) (fun w => run_neq_held_nil w t u v hu)
theorem Val.isNil (hx : evS σ x = some .nilIface) (hu : P.underlying t = some (.interface (P.methodsAt t))) :
    Val P n σ I ⟨dst, .binOp .neq t x (.const .nilIface) t2, ty, pos, af, gd⟩ (.bool false) := .bin hx rfl (by cases x <;> rfl) (fun w => run_neq_nil_nil w t hu)
theorem Val.makeIface (hx : evS σ x = some v) (h : P.concrete t = true) : Val P n σ I ⟨dst, .makeInterface t x, ty, pos, af, gd⟩ (.iface t v) := .of_run fun a w ha _ => by
  have h1 := ha.eval hx
  unfold execOp
  simp [h1, run_makeInterface w t v h]
theorem map_info {e : TypeId} {s : Nat} (hs : (P.info? e).map (·.size) = some s) : ∃ i, P.info? e = some i ∧ i.size = s := by
  cases hq : P.info? e with
  | none => simp [hq] at hs
  | some i => simp [hq] at hs; exact ⟨i, rfl, hs⟩
/-- make of a slice. -/
theorem New.make {z : Value} {s by' : Nat} {cs : Array Value} (c : Nat) (hx : evS σ x = some (.int k (c : Int))) (hy : evS σ y = some (.int k2 (c : Int))) (hu : P.underlying t = some (.slice e)) (hs : (P.info? e).map (·.size) = some s) (hz : (P.info? e).bind (·.zero) = some z) (hb : (P.info? e).map (·.bytes) = some by')
    (hby : by' * c ≤ 281474976710656) (h63 : c ≤ 9223372036854775807) (hcs : madeCells z.cells (c * s) = cs) :
    New P n σ I ⟨dst, .makeSlice t x y, ty, pos, af, gd⟩ (.cells cs e (0, 0)) (fun b => .slice (some ⟨b, 0, none⟩) c c) := ⟨fun a w ha _ => by
  have h1 := ha.eval hx
  have h2 := ha.eval hy
  obtain ⟨i, hi, rfl⟩ := map_info hs
  rw [hi] at hz hb
  simp only [Option.bind_some, Option.map_some, Option.some.injEq] at hz hb
  subst hb
  have hb' : (i.bytes : Int) * (c : Int) ≤ 281474976710656 := by
    have h : ((i.bytes * c : Nat) : Int) ≤ 281474976710656 := by omega
    rwa [Int.natCast_mul] at h
  have := run_make (P := P) w t e i z hu hi hz k k2 c c (by omega) (Int.le_refl _) hb' (by omega)
  rw [Int.toNat_natCast, hcs] at this
  unfold execOp
  simp only [h1, h2, Sem.run_bind, this, Result.andThen_ok]
  rfl⟩
end
theorem row_cells {w : World} {b T : Nat} {cs : Array Value} {xs : List Int} {m : Nat} {fr : Nat × Nat} (h : w.heap[b]? = some (.cells cs T fr)) (hc : ∀ i, i < m → cs[i]? = some (.int .u8 (xs.getD i 0))) : ∀ i, i < m → w.cell? ⟨b, 0 + i, none⟩ = some (.int .u8 (xs.getD i 0)) := fun i hi => by
  rw [Nat.zero_add, cell_of_row w b i cs T fr h]; exact hc i hi
/-- A part of a block, cell by cell. -/
theorem cell_part {w : World} {b T q : Nat} {cs ps : Array Value} {fr : Nat × Nat} (h : w.heap[b]? = some (.cells cs T fr)) (hp : ∀ j, j < ps.size → cs[q + j]? = ps[j]?) : ∀ j v, ps[j]? = some v → w.cell? ⟨b, q + j, none⟩ = some v := fun j v hj => by
  rw [cell_of_row w b _ cs T fr h, hp j (Array.getElem?_eq_some_iff.1 hj).1]; exact hj
/-- A block that a callee has made, in its caller's lists. -/
theorem Hold.extend {D : Nat → Bool} {w0 w w' : World} {η : List (Nat × Obj)} {b : Nat} {ob : Obj} (hw : Hold D w0 η w) (hb : w.heap.size ≤ b) (hB : Below w.heap.size w w') (h : w'.heap[b]? = some ob) : w0.heap.size ≤ b ∧ Hold D w0 ((b, ob) :: η) w' := by
  refine ⟨Nat.le_trans hw.sn.size hb, hw.sn.on hB, fun p hp => ?_, ?_⟩
  · rcases List.mem_cons.1 hp with rfl | hp
    · exact h
    · exact (hw.on hB).held p hp
  · rw [List.map_cons, List.nodup_cons]
    refine ⟨fun hm => ?_, hw.nd⟩
    obtain ⟨p, hp, e⟩ := List.mem_map.1 hm
    have := hw.lt hp
    rw [e] at this
    omega
end Go.Proofs.Yteehdjkmjncehaa
