/-
  The symbolic walk over this program: its types and functions, and the element functions' contracts on the walk's lists (written by genhe.py).
-/
import Derived.Test.YteehdjkmjncehaaDoorH3
import Derived.Test.YteehdjkmjncehaaDoorLst
import Derived.Test.YteehdjkmjncehaaDoorMid
import Derived.Test.YteehdjkmjncehaaDoorMov2
import Derived.Test.YteehdjkmjncehaaDoorA24
import Derived.Test.YteehdjkmjncehaaDoorAddSub2
import Derived.Test.YteehdjkmjncehaaDoorSt0
namespace Go.Proofs.YteehdjkmjncehaaDoor
open Go.RowKit
/-- Elements in a row, as cells. -/
abbrev elA (vs : List Nat) : Array Value := (arr8 (vs.flatMap elL)).toArray
theorem elA_one (v : Nat) : elA [v] = byA 32 v := by rw [byA_el]; simp [elA]
theorem flat_len : ∀ vs : List Nat, (vs.flatMap elL).length = 4 * vs.length
  | [] => rfl
  | v :: vs => by rw [List.flatMap_cons, List.length_append, flat_len vs, elL_length, List.length_cons]; omega
theorem elA_size (vs : List Nat) : (elA vs).size = 32 * vs.length := by rw [List.size_toArray, arr8_length, flat_len]; omega
theorem b8_one (l : Nat) : ∀ x ∈ b8 l, x.oneCell' = true := by
  intro x hx
  simp only [b8, List.mem_map] at hx
  obtain ⟨j, _, rfl⟩ := hx
  rfl
theorem elA_oneC (vs : List Nat) : (elA vs).all (·.oneCell') = true := all_oneCell_toArray (by
  intro x hx
  simp only [arr8, List.mem_flatMap] at hx
  obtain ⟨l, _, hx⟩ := hx
  exact b8_one l x hx)
theorem flat_get : ∀ (vs : List Nat) (q v j : Nat), vs[q]? = some v → j < 4 → (vs.flatMap elL)[4 * q + j]? = some (limb v j)
  | [], q, v, j, h, _ => by simp at h
  | u :: vs, 0, v, j, h, hj => by
    simp at h; subst h
    rw [List.flatMap_cons, List.getElem?_append_left (by rw [elL_length]; omega)]
    rcases (show j = 0 ∨ j = 1 ∨ j = 2 ∨ j = 3 by omega) with rfl | rfl | rfl | rfl <;> rfl
  | u :: vs, q + 1, v, j, h, hj => by
    rw [List.flatMap_cons, List.getElem?_append_right (by rw [elL_length]; omega), elL_length, show 4 * (q + 1) + j - 4 = 4 * q + j by omega]
    exact flat_get vs q v j (by simpa using h) hj
theorem flat_putE : ∀ (vs : List Nat) (q r : Nat), q < vs.length → putE (vs.flatMap elL) q r = (vs.set q r).flatMap elL := by
  intro vs q r hq
  apply List.ext_getElem?
  intro k
  have hl : 4 * q + 3 < (vs.flatMap elL).length := by rw [flat_len]; omega
  rw [putE_get _ q r k hl]
  by_cases hk : k < 4 * vs.length
  · obtain ⟨i, j, hj, rfl⟩ : ∃ i j, j < 4 ∧ k = 4 * i + j := ⟨k / 4, k % 4, by omega, by omega⟩
    have hi : i < vs.length := by omega
    by_cases e : i = q
    · subst e
      rw [if_pos (by omega), flat_get (vs.set i r) i r j (by simp [hi]) hj, show 4 * i + j - 4 * i = j by omega]
    · rw [if_neg (by omega), flat_get vs i vs[i] j (by simp [hi]) hj, flat_get (vs.set q r) i vs[i] j (by rw [List.getElem?_set_ne (Ne.symm e)]; simp [hi]) hj]
  · rw [if_neg (by omega), List.getElem?_eq_none (by rw [flat_len]; omega), List.getElem?_eq_none (by rw [flat_len]; simp; omega)]
/-- A block of elements. -/
abbrev obE (vs : List Nat) (T : Nat) : Obj := .cells (elA vs) T (0, 0)
theorem ob1 (v T : Nat) : Obj.cells (byA 32 v) T (0, 0) = obE [v] T := by rw [← elA_one]
/-- At an address there lies an element, by the lists. -/
def ElH (η : List (Nat × Obj)) (b o x : Nat) : Prop := ∃ (i : Nat) (ob : Obj) (vs : List Nat) (T q : Nat), η[i]? = some (b, ob) ∧ ob = obE vs T ∧ vs[q]? = some x ∧ o = 32 * q
theorem elh1 (i : Nat) {η : List (Nat × Obj)} {b x T : Nat} (h : η[i]? = some (b, .cells (byA 32 x) T (0, 0))) : ElH η b 0 x := ⟨i, _, [x], T, 0, h, ob1 x T, rfl, rfl⟩
theorem elh5 (i q : Nat) {η : List (Nat × Obj)} {b x T : Nat} {vs : List Nat} (h : η[i]? = some (b, obE vs T)) (hq : vs[q]? = some x) : ElH η b (32 * q) x := ⟨i, _, vs, T, q, h, rfl, hq, rfl⟩
theorem ElH.el {D : Nat → Bool} {w0 w : World} {η : List (Nat × Obj)} {b o x : Nat} (h : ElH η b o x) (hw : Hold D w0 η w) : ElAt w b o x := by
  obtain ⟨i, ob, vs, T, q, h1, rfl, h3, h4⟩ := h
  exact ⟨T, vs.flatMap elL, q, hw.at h1, h4, flat_get vs q x 0 h3 (by decide), flat_get vs q x 1 h3 (by decide), flat_get vs q x 2 h3 (by decide), flat_get vs q x 3 h3 (by decide)⟩
/-- A place for an element. -/
structure Dst (D : Nat → Bool) (w0 : World) (η : List (Nat × Obj)) (b o : Nat) (η' : Nat → List (Nat × Obj)) : Prop where
  out : ∃ (i : Nat) (ob : Obj) (vs : List Nat) (T q : Nat), η[i]? = some (b, ob) ∧ ob = obE vs T ∧ q < vs.length ∧ o = 32 * q ∧ (w0.heap.size ≤ b ∨ D b = true) ∧ ∀ r, η' r = η.set i (b, obE (vs.set q r) T)
theorem dst1 (i : Nat) {D : Nat → Bool} {w0 : World} {η : List (Nat × Obj)} {b x T : Nat} (h : η[i]? = some (b, .cells (byA 32 x) T (0, 0))) (hD : w0.heap.size ≤ b ∨ D b = true) : Dst D w0 η b 0 (fun r => η.set i (b, .cells (byA 32 r) T (0, 0))) :=
  ⟨i, _, [x], T, 0, h, ob1 x T, Nat.lt_succ_self 0, rfl, hD, fun r => by rw [ob1]; rfl⟩
theorem dst5 (i q : Nat) {D : Nat → Bool} {w0 : World} {η : List (Nat × Obj)} {b T : Nat} {vs : List Nat} (h : η[i]? = some (b, obE vs T)) (hq : q < vs.length) (hD : w0.heap.size ≤ b ∨ D b = true) : Dst D w0 η b (32 * q) (fun r => η.set i (b, obE (vs.set q r) T)) :=
  ⟨i, _, vs, T, q, h, rfl, hq, rfl, hD, fun _ => rfl⟩
theorem dst_call {D : Nat → Bool} {w0 : World} {η : List (Nat × Obj)} {b o : Nat} {η' : Nat → List (Nat × Obj)} {f : FuncId} {args : Array Value} {R : Nat → Prop} (hd : Dst D w0 η b o η')
    (hc : ∀ w, Hold D w0 η w → ∀ T ls iz, Blk w b T ls → 4 * iz + 3 < ls.length → o = 32 * iz → Calls Tryd.prog f args w (ElR b T iz ls R w)) :
    ∀ w, Hold D w0 η w → Calls Tryd.prog f args w fun e w' => ∃ r, (r < 2 ^ 256 ∧ R r) ∧ e = .returned (.tuple #[]) ∧ Hold D w0 (η' r) w' := fun w hw => by
  obtain ⟨i, ob, vs, T, q, h1, rfl, h3, h4, h5, h6⟩ := hd.out
  refine (hc w hw T (vs.flatMap elL) q (hw.at h1) (by rw [flat_len]; omega) h4).mono fun e w' ⟨r, hr, hR, he, hB, hO⟩ => ⟨r, ⟨hr, hR⟩, he, ?_⟩
  rw [h6]
  refine hw.put h1 h5 hO.os hO.tape hO.output hO.size hO.block ?_
  unfold Blk at hB
  rw [flat_putE vs q r h3] at hB
  exact hB

theorem addH {D : Nat → Bool} {w0 : World} {η : List (Nat × Obj)} {b o : Nat} {η' : Nat → List (Nat × Obj)} {px ox x : Nat} {py oy y : Nat} (hd : Dst D w0 η b o η') (hx : ElH η px ox x) (lx : x < 2 ^ 256) (hy : ElH η py oy y) (ly : y < 2 ^ 256) :
    ∀ w, Hold D w0 η w → Calls Tryd.prog 46 #[.pointer (some ⟨b, o, none⟩), .pointer (some ⟨px, ox, none⟩), .pointer (some ⟨py, oy, none⟩)] w fun e w' => ∃ r, (r < 2 ^ 256 ∧ r % p25 = (x + y) % p25) ∧ e = .returned (.tuple #[]) ∧ Hold D w0 (η' r) w' :=
  dst_call (R := fun r => r % p25 = (x + y) % p25) hd fun _ hw _ _ iz hB hl ho => fpAdd_any (iz := iz) hB hl ho (hx.el hw) lx (hy.el hw) ly

theorem subH {D : Nat → Bool} {w0 : World} {η : List (Nat × Obj)} {b o : Nat} {η' : Nat → List (Nat × Obj)} {px ox x : Nat} {py oy y : Nat} (hd : Dst D w0 η b o η') (hx : ElH η px ox x) (lx : x < 2 ^ 256) (hy : ElH η py oy y) (ly : y < 2 ^ 256) :
    ∀ w, Hold D w0 η w → Calls Tryd.prog 45 #[.pointer (some ⟨b, o, none⟩), .pointer (some ⟨px, ox, none⟩), .pointer (some ⟨py, oy, none⟩)] w fun e w' => ∃ r, (r < 2 ^ 256 ∧ (r + y) % p25 = x % p25) ∧ e = .returned (.tuple #[]) ∧ Hold D w0 (η' r) w' :=
  dst_call (R := fun r => (r + y) % p25 = x % p25) hd fun _ hw _ _ iz hB hl ho => fpSub_any (iz := iz) hB hl ho (hx.el hw) lx (hy.el hw) ly

theorem mulH {D : Nat → Bool} {w0 : World} {η : List (Nat × Obj)} {b o : Nat} {η' : Nat → List (Nat × Obj)} {px ox x : Nat} {py oy y : Nat} (hd : Dst D w0 η b o η') (hx : ElH η px ox x) (lx : x < 2 ^ 256) (hy : ElH η py oy y) (ly : y < 2 ^ 256) :
    ∀ w, Hold D w0 η w → Calls Tryd.prog 48 #[.pointer (some ⟨b, o, none⟩), .pointer (some ⟨px, ox, none⟩), .pointer (some ⟨py, oy, none⟩)] w fun e w' => ∃ r, (r < 2 ^ 256 ∧ r % p25 = (x * y) % p25) ∧ e = .returned (.tuple #[]) ∧ Hold D w0 (η' r) w' :=
  dst_call (R := fun r => r % p25 = (x * y) % p25) hd fun _ hw _ _ iz hB hl ho => fpMul_any (iz := iz) hB hl ho (hx.el hw) lx (hy.el hw) ly

theorem sqrH {D : Nat → Bool} {w0 : World} {η : List (Nat × Obj)} {b o : Nat} {η' : Nat → List (Nat × Obj)} {px ox x : Nat} (hd : Dst D w0 η b o η') (hx : ElH η px ox x) (lx : x < 2 ^ 256) :
    ∀ w, Hold D w0 η w → Calls Tryd.prog 47 #[.pointer (some ⟨b, o, none⟩), .pointer (some ⟨px, ox, none⟩)] w fun e w' => ∃ r, (r < 2 ^ 256 ∧ r % p25 = (x * x) % p25) ∧ e = .returned (.tuple #[]) ∧ Hold D w0 (η' r) w' :=
  dst_call (R := fun r => r % p25 = (x * x) % p25) hd fun _ hw _ _ iz hB hl ho => fpSqr_any (iz := iz) hB hl ho (hx.el hw) lx

theorem addGH {D : Nat → Bool} {w0 : World} {η : List (Nat × Obj)} {b o : Nat} {η' : Nat → List (Nat × Obj)} {px ox x : Nat} {py oy y : Nat} (hd : Dst D w0 η b o η') (hx : ElH η px ox x) (lx : x < 2 ^ 256) (hy : ElH η py oy y) (ly : y < 2 ^ 256) :
    ∀ w, Hold D w0 η w → Calls Tryd.prog 69 #[.pointer (some ⟨b, o, none⟩), .pointer (some ⟨px, ox, none⟩), .pointer (some ⟨py, oy, none⟩)] w fun e w' => ∃ r, (r < 2 ^ 256 ∧ r % p25 = (x + y) % p25) ∧ e = .returned (.tuple #[]) ∧ Hold D w0 (η' r) w' :=
  dst_call (R := fun r => r % p25 = (x + y) % p25) hd fun _ hw _ _ iz hB hl ho => addGeneric_any (iz := iz) hB hl ho (hx.el hw) lx (hy.el hw) ly

theorem subGH {D : Nat → Bool} {w0 : World} {η : List (Nat × Obj)} {b o : Nat} {η' : Nat → List (Nat × Obj)} {px ox x : Nat} {py oy y : Nat} (hd : Dst D w0 η b o η') (hx : ElH η px ox x) (lx : x < 2 ^ 256) (hy : ElH η py oy y) (ly : y < 2 ^ 256) :
    ∀ w, Hold D w0 η w → Calls Tryd.prog 68 #[.pointer (some ⟨b, o, none⟩), .pointer (some ⟨px, ox, none⟩), .pointer (some ⟨py, oy, none⟩)] w fun e w' => ∃ r, (r < 2 ^ 256 ∧ (r + y) % p25 = x % p25) ∧ e = .returned (.tuple #[]) ∧ Hold D w0 (η' r) w' :=
  dst_call (R := fun r => (r + y) % p25 = x % p25) hd fun _ hw _ _ iz hB hl ho => subGeneric_any (iz := iz) hB hl ho (hx.el hw) lx (hy.el hw) ly

theorem a24H {D : Nat → Bool} {w0 : World} {η : List (Nat × Obj)} {b o : Nat} {η' : Nat → List (Nat × Obj)} {px ox x : Nat} (hd : Dst D w0 η b o η') (hx : ElH η px ox x) (lx : x < 2 ^ 256) :
    ∀ w, Hold D w0 η w → Calls Tryd.prog 85 #[.pointer (some ⟨b, o, none⟩), .pointer (some ⟨px, ox, none⟩)] w fun e w' => ∃ r, (r < 2 ^ 256 ∧ r % p25 = (x * 121666) % p25) ∧ e = .returned (.tuple #[]) ∧ Hold D w0 (η' r) w' :=
  dst_call (R := fun r => r % p25 = (x * 121666) % p25) hd fun _ hw _ _ iz hB hl ho => mulA24Generic_any (iz := iz) hB hl ho (hx.el hw) lx

theorem modpH {D : Nat → Bool} {w0 : World} {η : List (Nat × Obj)} {b o x : Nat} {η' : Nat → List (Nat × Obj)} (hd : Dst D w0 η b o η') (hx : ElH η b o x) (lx : x < 2 ^ 256) :
    ∀ w, Hold D w0 η w → Calls Tryd.prog 50 #[.pointer (some ⟨b, o, none⟩)] w fun e w' => ∃ r, (r < 2 ^ 256 ∧ r = x % p25) ∧ e = .returned (.tuple #[]) ∧ Hold D w0 (η' r) w' :=
  dst_call (R := fun r => r = x % p25) hd fun _ hw _ _ iz hB hl ho => fpModp_any (iz := iz) hB hl ho (hx.el hw) lx
theorem cmovH {D : Nat → Bool} {w0 : World} {η : List (Nat × Obj)} {b o x by' oy y m : Nat} {η' : Nat → List (Nat × Obj)} (hd : Dst D w0 η b o η') (hx : ElH η b o x) (hy : ElH η by' oy y) (lx : x < 2 ^ 256) (ly : y < 2 ^ 256) (hm : m ≤ 1) :
    ∀ w, Hold D w0 η w → Calls Tryd.prog 84 #[.pointer (some ⟨b, o, none⟩), .pointer (some ⟨by', oy, none⟩), .int .u64 (m : Nat)] w fun e w' => ∃ r, (r < 2 ^ 256 ∧ r = selN m x y) ∧ e = .returned (.tuple #[]) ∧ Hold D w0 (η' r) w' :=
  dst_call (R := fun r => r = selN m x y) hd fun _ hw _ _ iz hB hl ho => fpCmov_any (iz := iz) hB hl ho (hx.el hw) (hy.el hw) lx ly hm

theorem sz22 (v : Nat) : (Tryd.prog.info? 22).map (·.size) = some (byA 32 v).size := by rw [byA_size]; kernel_rfl
theorem al22 (w : World) : (Instr.alloc 22 true (.tuple #[])).run Tryd.prog w = .ok (.pointer (some ⟨w.heap.size, 0, none⟩)) (w.alloc (.cells (byA 32 0) 22 (0, 0))) := rfl
set_option maxRecDepth 100000 in
theorem bz22 : Tryd.prog.built 22 [] = some (byA 32 0) := by
  have h : Tryd.prog.built 22 [] = some (bfA 32 (fun _ => 0)) := by rw [zeros_b32]; kernel_rfl
  exact h

theorem sz41 (v : Nat) : (Tryd.prog.info? 41).map (·.size) = some (byA 32 v).size := by rw [byA_size]; kernel_rfl
theorem al41 (w : World) : (Instr.alloc 41 true (.tuple #[])).run Tryd.prog w = .ok (.pointer (some ⟨w.heap.size, 0, none⟩)) (w.alloc (.cells (byA 32 0) 41 (0, 0))) := rfl
set_option maxRecDepth 100000 in
theorem bz41 : Tryd.prog.built 41 [] = some (byA 32 0) := by
  have h : Tryd.prog.built 41 [] = some (bfA 32 (fun _ => 0)) := by rw [zeros_b32]; kernel_rfl
  exact h

theorem sz47 (v : Nat) : (Tryd.prog.info? 47).map (·.size) = some (byA 32 v).size := by rw [byA_size]; kernel_rfl
theorem al47 (w : World) : (Instr.alloc 47 true (.tuple #[])).run Tryd.prog w = .ok (.pointer (some ⟨w.heap.size, 0, none⟩)) (w.alloc (.cells (byA 32 0) 47 (0, 0))) := rfl
set_option maxRecDepth 100000 in
theorem bz47 : Tryd.prog.built 47 [] = some (byA 32 0) := by
  have h : Tryd.prog.built 47 [] = some (bfA 32 (fun _ => 0)) := by rw [zeros_b32]; kernel_rfl
  exact h

theorem eqsz32 (a b : Nat) : (byA 32 a).size = (byA 32 b).size := by rw [byA_size, byA_size]
theorem one32 (v : Nat) : (byA 32 v).all (·.oneCell') = true := all_oneCell_toArray (byL_one 32 v)
theorem eqszN (f g : Nat → Nat) (n : Nat) : (dgA n f).size = (dgA n g).size := by rw [dgA_size, dgA_size]
theorem oneN (n : Nat) (f : Nat → Nat) : (dgA n f).all (·.oneCell') = true := dgA_one n f

theorem sz25 (g : Nat → Nat) : (Tryd.prog.info? 25).map (·.size) = some (dgA 16 g).size := by rw [dgA_size]; kernel_rfl
set_option maxRecDepth 100000 in
theorem al25 (w : World) : (Instr.alloc 25 true (.tuple #[])).run Tryd.prog w = .ok (.pointer (some ⟨w.heap.size, 0, none⟩)) (w.alloc (.cells (dgA 16 (dig 0)) 25 (0, 0))) := rfl
set_option maxRecDepth 100000 in
theorem bz25 : Tryd.prog.built 25 [] = some (dgA 16 (dig 0)) := by kernel_rfl

theorem sz49 (g : Nat → Nat) : (Tryd.prog.info? 49).map (·.size) = some (dgA 80 g).size := by rw [dgA_size]; kernel_rfl
set_option maxRecDepth 100000 in
theorem al49 (w : World) : (Instr.alloc 49 true (.tuple #[])).run Tryd.prog w = .ok (.pointer (some ⟨w.heap.size, 0, none⟩)) (w.alloc (.cells (dgA 80 (w5F 0 0 0 0 0)) 49 (0, 0))) := rfl
set_option maxRecDepth 100000 in
theorem bz49 : Tryd.prog.built 49 [] = some (dgA 80 (w5F 0 0 0 0 0)) := by kernel_rfl

theorem sz64 (a b c d e : Nat) : (Tryd.prog.info? 64).map (·.size) = some (elA [a, b, c, d, e]).size := by rw [elA_size]; kernel_rfl
set_option maxRecDepth 100000 in
theorem al64 (w : World) : (Instr.alloc 64 true (.tuple #[])).run Tryd.prog w = .ok (.pointer (some ⟨w.heap.size, 0, none⟩)) (w.alloc (.cells (elA [0, 0, 0, 0, 0]) 64 (0, 0))) := rfl

theorem eqlN (a b : Nat) (ha : a < 2 ^ 256) (hb : b < 2 ^ 256) (w : World) : (binOp .eql 25 (.agg (dgA 16 (dig a))) (.agg (dgA 16 (dig b)))).run Tryd.prog w = .ok (.bool (decide (a = b))) w := by
  rw [run_eql_ints 25 23 .u64 16 _ _ (fun i => ((dig a i : Nat) : Int)) (fun i => ((dig b i : Nat) : Int)) Tryd.underlying25 Tryd.underlying23 (by kernel_rfl) (fun i hi => dgA_get hi) (fun i hi => dgA_get hi) w]
  congr 2
  rw [Bool.eq_iff_iff]
  simp only [decide_eq_true_eq]
  refine ⟨fun h => ?_, fun h => by subst h; intro i _; rfl⟩
  have e : ∀ v, v < 2 ^ 256 → v = sumF (dig v) 16 := fun v hv => by rw [sum_dig, Nat.mod_eq_of_lt (Nat.lt_of_lt_of_eq hv (by decide +kernel))]
  rw [e a ha, e b hb]
  exact sumF_congr fun i hi => by exact_mod_cast h i hi
theorem eql22 (a b : Nat) (ha : a < 256 ^ 32) (hb : b < 256 ^ 32) (w : World) : (binOp .eql 22 (.agg (byA 32 a)) (.agg (byA 32 b))).run Tryd.prog w = .ok (.bool (decide (a = b))) w := run_eql_by Tryd.underlying22 Tryd.underlying5 (by kernel_rfl) ha hb w
theorem lt_256_32 {a : Nat} (h : a < 2 ^ 256) : a < 256 ^ 32 := Nat.lt_of_lt_of_eq h (by decide +kernel)
theorem modlt (a : Nat) : a % p25 < p25 := Nat.mod_lt _ (by decide +kernel)

theorem en3 : Enters Tryd.prog 3 := enters Tryd.func3 (by kernel_rfl) rfl
theorem en4 : Enters Tryd.prog 4 := enters Tryd.func4 (by kernel_rfl) rfl
theorem en5 : Enters Tryd.prog 5 := enters Tryd.func5 (by kernel_rfl) rfl
theorem en6 : Enters Tryd.prog 6 := enters Tryd.func6 (by kernel_rfl) rfl
theorem en7 : Enters Tryd.prog 7 := enters Tryd.func7 (by kernel_rfl) rfl
theorem en8 : Enters Tryd.prog 8 := enters Tryd.func8 (by kernel_rfl) rfl
theorem en9 : Enters Tryd.prog 9 := enters Tryd.func9 (by kernel_rfl) rfl
theorem en10 : Enters Tryd.prog 10 := enters Tryd.func10 (by kernel_rfl) rfl
theorem en11 : Enters Tryd.prog 11 := enters Tryd.func11 (by kernel_rfl) rfl
theorem en12 : Enters Tryd.prog 12 := enters Tryd.func12 (by kernel_rfl) rfl
theorem en13 : Enters Tryd.prog 13 := enters Tryd.func13 (by kernel_rfl) rfl
theorem en14 : Enters Tryd.prog 14 := enters Tryd.func14 (by kernel_rfl) rfl
theorem en15 : Enters Tryd.prog 15 := enters Tryd.func15 (by kernel_rfl) rfl
theorem en16 : Enters Tryd.prog 16 := enters Tryd.func16 (by kernel_rfl) rfl
theorem en17 : Enters Tryd.prog 17 := enters Tryd.func17 (by kernel_rfl) rfl
theorem en18 : Enters Tryd.prog 18 := enters Tryd.func18 (by kernel_rfl) rfl
theorem en19 : Enters Tryd.prog 19 := enters Tryd.func19 (by kernel_rfl) rfl
theorem en20 : Enters Tryd.prog 20 := enters Tryd.func20 (by kernel_rfl) rfl
theorem en21 : Enters Tryd.prog 21 := enters Tryd.func21 (by kernel_rfl) rfl
theorem en22 : Enters Tryd.prog 22 := enters Tryd.func22 (by kernel_rfl) rfl
theorem en23 : Enters Tryd.prog 23 := enters Tryd.func23 (by kernel_rfl) rfl
theorem en24 : Enters Tryd.prog 24 := enters Tryd.func24 (by kernel_rfl) rfl
theorem en25 : Enters Tryd.prog 25 := enters Tryd.func25 (by kernel_rfl) rfl
theorem en26 : Enters Tryd.prog 26 := enters Tryd.func26 (by kernel_rfl) rfl
theorem en27 : Enters Tryd.prog 27 := enters Tryd.func27 (by kernel_rfl) rfl
theorem en28 : Enters Tryd.prog 28 := enters Tryd.func28 (by kernel_rfl) rfl
theorem en29 : Enters Tryd.prog 29 := enters Tryd.func29 (by kernel_rfl) rfl
theorem en30 : Enters Tryd.prog 30 := enters Tryd.func30 (by kernel_rfl) rfl
theorem en31 : Enters Tryd.prog 31 := enters Tryd.func31 (by kernel_rfl) rfl
theorem en32 : Enters Tryd.prog 32 := enters Tryd.func32 (by kernel_rfl) rfl
theorem en33 : Enters Tryd.prog 33 := enters Tryd.func33 (by kernel_rfl) rfl
theorem en34 : Enters Tryd.prog 34 := enters Tryd.func34 (by kernel_rfl) rfl
theorem en35 : Enters Tryd.prog 35 := enters Tryd.func35 (by kernel_rfl) rfl
theorem en36 : Enters Tryd.prog 36 := enters Tryd.func36 (by kernel_rfl) rfl
theorem en37 : Enters Tryd.prog 37 := enters Tryd.func37 (by kernel_rfl) rfl
theorem en38 : Enters Tryd.prog 38 := enters Tryd.func38 (by kernel_rfl) rfl
theorem en39 : Enters Tryd.prog 39 := enters Tryd.func39 (by kernel_rfl) rfl
theorem en40 : Enters Tryd.prog 40 := enters Tryd.func40 (by kernel_rfl) rfl
theorem en41 : Enters Tryd.prog 41 := enters Tryd.func41 (by kernel_rfl) rfl
theorem en42 : Enters Tryd.prog 42 := enters Tryd.func42 (by kernel_rfl) rfl
theorem en43 : Enters Tryd.prog 43 := enters Tryd.func43 (by kernel_rfl) rfl
theorem en44 : Enters Tryd.prog 44 := enters Tryd.func44 (by kernel_rfl) rfl
theorem en45 : Enters Tryd.prog 45 := enters Tryd.func45 (by kernel_rfl) rfl
theorem en46 : Enters Tryd.prog 46 := enters Tryd.func46 (by kernel_rfl) rfl
theorem en47 : Enters Tryd.prog 47 := enters Tryd.func47 (by kernel_rfl) rfl
theorem en48 : Enters Tryd.prog 48 := enters Tryd.func48 (by kernel_rfl) rfl
theorem en49 : Enters Tryd.prog 49 := enters Tryd.func49 (by kernel_rfl) rfl
theorem en50 : Enters Tryd.prog 50 := enters Tryd.func50 (by kernel_rfl) rfl
theorem en51 : Enters Tryd.prog 51 := enters Tryd.func51 (by kernel_rfl) rfl
theorem en52 : Enters Tryd.prog 52 := enters Tryd.func52 (by kernel_rfl) rfl
theorem en53 : Enters Tryd.prog 53 := enters Tryd.func53 (by kernel_rfl) rfl
theorem en54 : Enters Tryd.prog 54 := enters Tryd.func54 (by kernel_rfl) rfl
theorem en55 : Enters Tryd.prog 55 := enters Tryd.func55 (by kernel_rfl) rfl
theorem en56 : Enters Tryd.prog 56 := enters Tryd.func56 (by kernel_rfl) rfl
theorem en57 : Enters Tryd.prog 57 := enters Tryd.func57 (by kernel_rfl) rfl
theorem en58 : Enters Tryd.prog 58 := enters Tryd.func58 (by kernel_rfl) rfl
theorem en59 : Enters Tryd.prog 59 := enters Tryd.func59 (by kernel_rfl) rfl
theorem en60 : Enters Tryd.prog 60 := enters Tryd.func60 (by kernel_rfl) rfl
theorem en61 : Enters Tryd.prog 61 := enters Tryd.func61 (by kernel_rfl) rfl
theorem en62 : Enters Tryd.prog 62 := enters Tryd.func62 (by kernel_rfl) rfl
theorem en63 : Enters Tryd.prog 63 := enters Tryd.func63 (by kernel_rfl) rfl
theorem en64 : Enters Tryd.prog 64 := enters Tryd.func64 (by kernel_rfl) rfl
theorem en65 : Enters Tryd.prog 65 := enters Tryd.func65 (by kernel_rfl) rfl
theorem en66 : Enters Tryd.prog 66 := enters Tryd.func66 (by kernel_rfl) rfl
theorem en67 : Enters Tryd.prog 67 := enters Tryd.func67 (by kernel_rfl) rfl
theorem en68 : Enters Tryd.prog 68 := enters Tryd.func68 (by kernel_rfl) rfl
theorem en69 : Enters Tryd.prog 69 := enters Tryd.func69 (by kernel_rfl) rfl
theorem en70 : Enters Tryd.prog 70 := enters Tryd.func70 (by kernel_rfl) rfl
theorem en71 : Enters Tryd.prog 71 := enters Tryd.func71 (by kernel_rfl) rfl
theorem en72 : Enters Tryd.prog 72 := enters Tryd.func72 (by kernel_rfl) rfl
theorem en73 : Enters Tryd.prog 73 := enters Tryd.func73 (by kernel_rfl) rfl
theorem en74 : Enters Tryd.prog 74 := enters Tryd.func74 (by kernel_rfl) rfl
theorem en75 : Enters Tryd.prog 75 := enters Tryd.func75 (by kernel_rfl) rfl
theorem en76 : Enters Tryd.prog 76 := enters Tryd.func76 (by kernel_rfl) rfl
theorem en77 : Enters Tryd.prog 77 := enters Tryd.func77 (by kernel_rfl) rfl
theorem en79 : Enters Tryd.prog 79 := enters Tryd.func79 (by kernel_rfl) rfl
theorem en81 : Enters Tryd.prog 81 := enters Tryd.func81 (by kernel_rfl) rfl
theorem en82 : Enters Tryd.prog 82 := enters Tryd.func82 (by kernel_rfl) rfl
theorem en83 : Enters Tryd.prog 83 := enters Tryd.func83 (by kernel_rfl) rfl
theorem en84 : Enters Tryd.prog 84 := enters Tryd.func84 (by kernel_rfl) rfl
theorem en85 : Enters Tryd.prog 85 := enters Tryd.func85 (by kernel_rfl) rfl
theorem en86 : Enters Tryd.prog 86 := enters Tryd.func86 (by kernel_rfl) rfl
theorem en88 : Enters Tryd.prog 88 := enters Tryd.func88 (by kernel_rfl) rfl
theorem en89 : Enters Tryd.prog 89 := enters Tryd.func89 (by kernel_rfl) rfl
theorem en113 : Enters Tryd.prog 113 := enters Tryd.func113 (by kernel_rfl) rfl
end Go.Proofs.YteehdjkmjncehaaDoor
