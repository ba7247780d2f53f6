/-
  The symbolic walk: slices whose lengths are no literals: make, append, parts of slices; rows of equal parts.
-/
import Derived.Test.YtjjofnjhnoobpaaDoorHS
import Derived.Test.YtjjofnjhnoobpaaDoorHA
import Derived.Laws.MakeOwn
import Derived.Deep.Slices
namespace Go.Proofs.YtjjofnjhnoobpaaDoor
open Go.RowKit
/-- Parts of equal size in a row. -/
def flat (f : Nat → Array Value) (l : List Nat) : Array Value := (l.flatMap fun x => (f x).toList).toArray
section
variable {f : Nat → Array Value} {k : Nat}
theorem flat_length (hf : ∀ x, (f x).size = k) (l : List Nat) : (l.flatMap fun x => (f x).toList).length = l.length * k := by
  induction l with
  | nil => simp
  | cons x l ih => rw [List.flatMap_cons, List.length_append, ih, Array.length_toList, hf, List.length_cons, Nat.succ_mul, Nat.add_comm]
theorem flat_size (hf : ∀ x, (f x).size = k) (l : List Nat) : (flat f l).size = l.length * k := by
  unfold flat; rw [List.size_toArray]; exact flat_length hf l
theorem flat_getL (hf : ∀ x, (f x).size = k) : ∀ (l : List Nat) (i j : Nat), i < l.length → j < k → (l.flatMap fun x => (f x).toList)[i * k + j]? = (f (l.getD i 0))[j]?
  | [], _, _, h, _ => absurd h (by simp)
  | x :: l, 0, j, _, hj => by
    rw [List.flatMap_cons, List.getElem?_append_left (by rw [Array.length_toList, hf]; omega), Nat.zero_mul, Nat.zero_add]
    simp
  | x :: l, i + 1, j, h, hj => by
    rw [List.flatMap_cons, List.getElem?_append_right (by rw [Array.length_toList, hf, Nat.succ_mul]; omega), Array.length_toList, hf, Nat.succ_mul, show i * k + k + j - k = i * k + j by omega]
    rw [flat_getL hf l i j (by simpa using h) hj]
    simp
theorem flat_get (hf : ∀ x, (f x).size = k) {l : List Nat} {i : Nat} (h : i < l.length) : ∀ j, j < (f (l.getD i 0)).size → (flat f l)[i * k + j]? = (f (l.getD i 0))[j]? := fun j hj => by
  rw [hf] at hj
  have := flat_getL hf l i j h hj
  unfold flat; simpa using this
theorem flat_setL (hf : ∀ x, (f x).size = k) (r : Nat) : ∀ (l : List Nat) (i : Nat), i < l.length → ∀ m : Nat, ((l.set i r).flatMap fun x => (f x).toList)[m]? = if i * k ≤ m ∧ m < i * k + k then (f r)[m - i * k]? else (l.flatMap fun x => (f x).toList)[m]?
  | [], _, h, _ => absurd h (by simp)
  | x :: l, 0, _, m => by
    rw [List.set_cons_zero, List.flatMap_cons, List.flatMap_cons, Nat.zero_mul]
    by_cases hm : m < k
    · rw [if_pos (by omega), List.getElem?_append_left (by rw [Array.length_toList, hf]; omega)]
      simp
    · rw [if_neg (by omega), List.getElem?_append_right (by rw [Array.length_toList, hf]; omega), List.getElem?_append_right (by rw [Array.length_toList, hf]; omega), Array.length_toList, Array.length_toList, hf, hf]
  | x :: l, i + 1, h, m => by
    rw [List.set_cons_succ, List.flatMap_cons, List.flatMap_cons, Nat.succ_mul]
    by_cases hm : m < k
    · rw [if_neg (by omega), List.getElem?_append_left (by rw [Array.length_toList, hf]; omega), List.getElem?_append_left (by rw [Array.length_toList, hf]; omega)]
    · rw [List.getElem?_append_right (by rw [Array.length_toList, hf]; omega), List.getElem?_append_right (by rw [Array.length_toList, hf]; omega), Array.length_toList, hf, flat_setL hf r l i (by simpa using h) (m - k)]
      by_cases hc : i * k ≤ m - k ∧ m - k < i * k + k
      · rw [if_pos hc, if_pos (by omega), show m - k - i * k = m - (i * k + k) by omega]
      · rw [if_neg hc, if_neg (by omega)]
theorem flat_set (hf : ∀ x, (f x).size = k) {l : List Nat} {i : Nat} (h : i < l.length) (r : Nat) : ∀ m : Nat, m < (flat f l).size → (flat f (l.set i r))[m]? = if i * k ≤ m ∧ m < i * k + (f r).size then (f r)[m - i * k]? else (flat f l)[m]? := fun m _ => by
  have := flat_setL hf r l i h m
  rw [hf]
  unfold flat; simpa using this
theorem flat_made (hf : ∀ x, (f x).size = k) (c : Nat) : madeCells (f 0) (c * k) = flat f (List.replicate c 0) := by
  have hk : (f 0).size = k := hf 0
  apply Array.ext_getElem?
  intro m
  unfold madeCells flat
  by_cases hm : m < c * k
  · have h0 : 0 < k := by
      rcases Nat.eq_zero_or_pos k with h | h
      · rw [h, Nat.mul_zero] at hm; omega
      · exact h
    have e : m = m / k * k + m % k := by rw [Nat.mul_comm]; exact (Nat.div_add_mod m k).symm
    have h1 : m / k < c := (Nat.div_lt_iff_lt_mul h0).2 hm
    have h2 := flat_getL hf (List.replicate c 0) (m / k) (m % k) (by simpa using h1) (Nat.mod_lt _ h0)
    rw [← e] at h2
    have h3 : (List.replicate c 0).getD (m / k) 0 = 0 := by simp [List.getD, List.getElem?_replicate]; split <;> rfl
    rw [h3] at h2
    have h4 : m % k < (f 0).size := by rw [hk]; exact Nat.mod_lt _ h0
    have h5 : ((List.replicate c 0).flatMap fun x => (f x).toList).toArray[m]? = (f 0)[m % k]? := by simpa using h2
    have h6 : (f 0)[m % k]? = some (f 0)[m % k]! := by rw [getElem!_pos (f 0) (m % k) h4]; exact Array.getElem?_eq_getElem h4
    rw [h5]
    simp [hm, hk]
    exact h6.symm
  · have hl := flat_length hf (List.replicate c 0)
    rw [List.length_replicate] at hl
    rw [Array.getElem?_eq_none (by simp; omega), Array.getElem?_eq_none (by rw [List.size_toArray]; omega)]
theorem flat_one (h1 : ∀ x, (f x).all (·.oneCell') = true) (l : List Nat) : (flat f l).all (·.oneCell') = true := by
  unfold flat
  refine all_oneCell_toArray fun v hv => ?_
  obtain ⟨x, _, hx⟩ := List.mem_flatMap.1 hv
  have := h1 x
  rw [Array.all_eq_true_iff_forall_mem] at this
  exact this v (by simpa using hx)
theorem flat_nil (f : Nat → Array Value) : flat f [] = #[] := rfl
end
theorem map_info {P : Program} {e : TypeId} {s : Nat} (hs : (P.info? e).map (·.size) = some s) : ∃ i, P.info? e = some i ∧ i.size = s := by
  cases hq : P.info? e with
  | none => simp [hq] at hs
  | some i => simp [hq] at hs; exact ⟨i, rfl, hs⟩
section
variable {P : Program} {ops : Array Oper} {Q : Exit → Act → World → Prop} {D : Nat → Bool} {w0 : World} {n : Nat} {σ : List (Nat × Value)} {η : List (Nat × Obj)} {I : World → Prop} {dst : Option Tmp} {ty : TypeId} {pos : String} {af : Array Edge} {gd : Option (Nat × Bool)} {rest : List Oper} {v : Value} {t e : TypeId} {x y : Operand} {k k2 : IntKind}
/-- make of a slice. -/
theorem New.make {z : Value} {s by' : Nat} {cs : Array Value} (c : Nat) (hx : evS σ x = some (.int k (c : Int))) (hy : evS σ y = some (.int k2 (c : Int))) (hu : P.underlying t = some (.slice e)) (hs : (P.info? e).map (·.size) = some s) (hz : (P.info? e).bind (·.zero) = some z) (hb : (P.info? e).map (·.bytes) = some by')
    (hby : by' * c ≤ 281474976710656) (h63 : c ≤ 9223372036854775807) (hcs : madeCells z.cells (c * s) = cs) :
    New P n σ I ⟨dst, .makeSlice t x y, ty, pos, af, gd⟩ (.cells cs e (0, 0)) (fun b => .slice (some ⟨b, 0, none⟩) c c) := ⟨fun a w ha _ => by
  have h1 := ha.eval hx
  have h2 := ha.eval hy
  obtain ⟨i, hi, rfl⟩ := map_info hs
  rw [hi] at hz hb
  simp only [Option.bind_some, Option.map_some, Option.some.injEq] at hz hb
  subst hb
  have hb' : (i.bytes : Int) * (c : Int) ≤ 281474976710656 := by
    have h : ((i.bytes * c : Nat) : Int) ≤ 281474976710656 := by omega
    rwa [Int.natCast_mul] at h
  have := run_make (P := P) w t e i z hu hi hz k k2 c c (by omega) (Int.le_refl _) hb' (by omega)
  rw [Int.toNat_natCast, hcs] at this
  unfold execOp
  simp only [h1, h2, Sem.run_bind, this, Result.andThen_ok]
  rfl⟩
/-- A list without elements. -/
theorem New.bslice0 {s : Nat} {parts : Array (Nat × Operand)} (hp : parts = #[]) (hu : P.underlying t = some (.slice e)) (hs : (P.info? e).map (·.size) = some s) :
    New P n σ I ⟨dst, .buildSlice t 0 parts, ty, pos, af, gd⟩ (.cells #[] e (0, 0)) (fun b => .slice (some ⟨b, 0, none⟩) 0 0) := ⟨fun a w _ _ => by
  subst hp
  unfold execOp
  simp [Instr.buildSlice, run_underlying hu w, size_of hs w, Instr.fill, newRow, Array.range_zero']⟩
/-- The address of an element of a slice that may be nil. -/
theorem Val.ixSliceA {s b q l c i : Nat} {ad : Option Addr} (q' : Nat) (hx : evS σ x = some (.slice ad l c)) (had : ad = some ⟨b, q, none⟩) (hy : evS σ y = some (.int k (i : Int))) (hu : P.underlying t = some (.slice e)) (hs : (P.info? e).map (·.size) = some s) (hi : i < l) (hq : q + i * s = q') :
    Val P n σ I ⟨dst, .indexAddr t x y, ty, pos, af, gd⟩ (.pointer (some ⟨b, q', none⟩)) := by
  subst had; exact Val.ixSlice q' hx hy hu hs hi hq
/-- A slice up to a number. -/
theorem Val.sliceSTo {ad : Option Addr} {l c h s : Nat} (hx : evS σ x = some (.slice ad l c)) (hy : evS σ y = some (.int k (h : Int))) (hu : P.underlying t = some (.slice e)) (hs : (P.info? e).map (·.size) = some s) (hh : h ≤ c) : Val P n σ I ⟨dst, .slice t x none (some y) none, ty, pos, af, gd⟩ (.slice ad h c) := .of_run fun a w ha _ => by
  have h1 := ha.eval hx
  have h2 := ha.eval hy
  have he : P.elem t = e := by simp [Program.elem, hu]
  unfold execOp
  simp only [h1, Option.map_none, Option.map_some, h2, Sem.run_bind, run_sliceAt_slice (P := P) (w := w) t _ _ _ _ (by rw [he]; exact hu), run_slice_h (P := P) (w := w) t ad l c (by rw [he]; exact hu) k h (by omega) (by omega), he, size_of hs w, Result.andThen_ok, sliced, Int.toNat_natCast]
  split <;> cases ad <;> simp [Addr.add]
/-- A slice from a number. -/
theorem Val.sliceSFrom {b q l c h s : Nat} (q' : Nat) (hx : evS σ x = some (.slice (some ⟨b, q, none⟩) l c)) (hy : evS σ y = some (.int k (h : Int))) (hu : P.underlying t = some (.slice e)) (hs : (P.info? e).map (·.size) = some s) (hh : h ≤ l) (hq : q' = if c = h then q else q + h * s) : Val P n σ I ⟨dst, .slice t x (some y) none none, ty, pos, af, gd⟩ (.slice (some ⟨b, q', none⟩) (l - h) (c - h)) := .of_run fun a w ha _ => by
  subst hq
  have h1 := ha.eval hx
  have h2 := ha.eval hy
  have he : P.elem t = e := by simp [Program.elem, hu]
  unfold execOp
  simp only [h1, Option.map_none, Option.map_some, h2, Sem.run_bind, run_sliceAt_slice (P := P) (w := w) t _ _ _ _ (by rw [he]; exact hu), run_slice_l (P := P) (w := w) t (some ⟨b, q, none⟩) l c (by rw [he]; exact hu) k h (by omega) (by omega), he, size_of hs w, Result.andThen_ok, sliced, Int.toNat_natCast]
  split <;> simp [Addr.add_lit]
theorem madd (b q j : Nat) : (⟨b, q, none⟩ : Addr).add j = ⟨b, q + j, none⟩ := by simp [Addr.add_lit]
/-- An append to a list that the call has made: it grows in its place, or is laid anew. -/
theorem HL.app {d : Nat} {s by' : Nat} {z : Value} (i : Nat) {b m c b2 q l2 c2 : Nat} {cur : Array Value} {T : TypeId} (news : Array Value) (hx : evS σ x = some (.slice (some ⟨b, 0, none⟩) m c)) (hy : evS σ y = some (.slice (some ⟨b2, q, none⟩) l2 c2))
    (hu : P.underlying t = some (.slice T)) (hs : (P.info? T).map (·.size) = some s) (hz : (P.info? T).bind (·.zero) = some z) (hzs : z.cells.size = s) (hb : (P.info? T).map (·.bytes) = some by')
    (hi : η[i]? = some (b, .cells cur T (0, 0))) (hmc : m ≤ c) (hcs : cur.size = c * s) (hl : news.size = l2 * s)
    (hsrc : ∀ w, Hold D w0 η w → ∀ j v, news[j]? = some v → w.cell? ⟨b2, q + j, none⟩ = some v) (h1 : ∀ v ∈ news, v.oneCell' = true) (hD : w0.heap.size ≤ b) (h63 : m + l2 ≤ 1000000000) (hby : by' ≤ 100000) (hd : d < n)
    (h : ∀ (b' c' : Nat) (cur' : Array Value), w0.heap.size ≤ b' → m + l2 ≤ c' → cur'.size = c' * s → (∀ j, j < m * s → cur'[j]? = cur[j]?) → (∀ j, j < l2 * s → cur'[m * s + j]? = news[j]?) →
      HL P ops Q D w0 n rest ((d, .slice (some ⟨b', 0, none⟩) (m + l2) c') :: σ) (η.set i (b', .cells cur' T (0, 0)))) :
    HL P ops Q D w0 n (⟨some d, .call { callee := .builtin .append, args := #[x, y], argTypes := #[t, t] }, ty, pos, af, none⟩ :: rest) σ η := ⟨fun a w ha hw => by
  have e1 := ha.eval hx
  have e2 := ha.eval hy
  obtain ⟨io, hio, rfl⟩ := map_info hs
  rw [hio] at hz hb
  simp only [Option.bind_some, Option.map_some, Option.some.injEq] at hz hb
  subst hb
  have hg := hw.at hi
  have hnews : ∀ j v, news.toList[j]? = some v → w.cell? ((⟨b2, q, none⟩ : Addr).add j) = some v := fun j v hj => by rw [madd]; exact hsrc w hw j v (by simpa using hj)
  have hms : m * io.size ≤ c * io.size := Nat.mul_le_mul_right _ hmc
  have hlt : (cur.toList.take (m * io.size)).length = m * io.size := by rw [List.length_take, Array.length_toList]; omega
  unfold wpList
  rw [if_pos (by simp [Region.wanted])]
  refine .inl ?_
  unfold Oper.wp execOp
  simp only [resolve, invoke, builtin, Sem.run_bind, Sem.run_pure, Result.andThen_ok, List.map_toArray, List.map_cons, List.map_nil, e1, e2]
  by_cases hroom : m + l2 ≤ c
  · have hfit : m * io.size + news.toList.length ≤ cur.size := by rw [Array.length_toList, hl, hcs, ← Nat.add_mul]; exact Nat.mul_le_mul_right _ hroom
    rw [run_append_room (P := P) w t ty T io hu hio b m c cur hg ⟨b2, q, none⟩ l2 c2 news.toList (by simpa using hl) hnews (fun u hu => h1 u (by simpa using hu)) hroom hfit]
    simp only [Result.andThen_ok, Oper.upon]
    have hh := h b c (cur.toList.take (m * io.size) ++ news.toList ++ cur.toList.drop (m * io.size + news.toList.length)).toArray hD hroom ?_ ?_ ?_
    · exact hh.out _ _ (ha.put hd _) (hw.put hi (.inl hD) rfl rfl rfl (by simp) (fun k _ hk => setRow_other w b k _ hk) (setRow_heap w b cur _ T (0, 0) hg))
    · rw [List.size_toArray, List.length_append, List.length_append, hlt, List.length_drop, Array.length_toList, Array.length_toList] at *; omega
    · intro j hj
      rw [List.getElem?_toArray, List.append_assoc, List.getElem?_append_left (by omega), List.getElem?_take, if_pos hj]; simp
    · intro j hj
      rw [List.getElem?_toArray, List.append_assoc, List.getElem?_append_right (by omega), hlt, show m * io.size + j - m * io.size = j by omega, List.getElem?_append_left (by rw [Array.length_toList]; omega)]; simp
  · have holds : ∀ j v, (cur.toList.take (m * io.size))[j]? = some v → w.cell? ((⟨b, 0, none⟩ : Addr).add j) = some v := fun j v hj => by
      rw [madd, Nat.zero_add, cell_of_row w b j cur T (0, 0) hg]
      rw [List.getElem?_take] at hj
      split at hj
      · simpa using hj
      · cases hj
    have hbb : (m + l2) * io.bytes ≤ 1000000000 * 100000 := Nat.mul_le_mul h63 hby
    rw [run_append_grow (P := P) w t ty T io z hu hio hz ⟨b, 0, none⟩ m c (cur.toList.take (m * io.size)) hlt holds ⟨b2, q, none⟩ l2 c2 news.toList (by simpa using hl) hnews (by omega) (by omega) (growslice_fits (by omega) (by omega))]
    simp only [Result.andThen_ok, Oper.upon]
    have hge := grownCap_ge w (m + l2) c T
    have hh := h w.heap.size (grownCap w (m + l2) c T) ((cur.toList.take (m * io.size)).toArray ++ news.toList.toArray ++ Builtin.zeroCells z.cells (grownCap w (m + l2) c T - (m + l2))) hw.sn.size hge ?_ ?_ ?_
    · have hal := hw.drew.alloc (.cells ((cur.toList.take (m * io.size)).toArray ++ news.toList.toArray ++ Builtin.zeroCells z.cells (grownCap w (m + l2) c T - (m + l2))) T (0, 0))
      refine hh.out _ _ (ha.put hd _) ?_
      have hal2 := hal.2
      refine ⟨hal2.sn, fun p hp => ?_, ?_⟩
      · obtain ⟨j, hj⟩ := List.getElem?_of_mem hp
        rw [List.getElem?_set] at hj
        split at hj
        · split at hj
          · obtain rfl := Option.some.inj hj
            exact hal2.held _ (by simp)
          · cases hj
        · exact hal2.held p (List.mem_cons_of_mem _ (List.mem_of_getElem? hj))
      · have hn := hal2.nd
        rw [List.map_cons, List.nodup_cons] at hn
        rw [List.map_set]
        have hsub : ∀ (L : List Nat) (i b : Nat), L.Nodup → b ∉ L → (L.set i b).Nodup := by
          intro L
          induction L with
          | nil => intro i b _ _; simp
          | cons a L ih =>
            intro i b hnd hb
            rw [List.nodup_cons] at hnd
            simp only [List.mem_cons, not_or] at hb
            cases i with
            | zero => rw [List.set_cons_zero, List.nodup_cons]; exact ⟨hb.2, hnd.2⟩
            | succ i =>
              rw [List.set_cons_succ, List.nodup_cons]
              refine ⟨fun hm => ?_, ih i b hnd.2 hb.2⟩
              rcases List.mem_or_eq_of_mem_set hm with h | h
              · exact hnd.1 h
              · exact hb.1 h.symm
        exact hsub _ _ _ hn.2 hn.1
    · simp only [Array.size_append, List.size_toArray, size_zeroCells, hzs, hlt, hl, ← Nat.add_mul]
      congr 1
      omega
    · intro j hj
      rw [Array.append_assoc, Array.getElem?_append_left (by simp only [List.size_toArray, hlt]; exact hj), List.getElem?_toArray, List.getElem?_take, if_pos hj]; simp
    · intro j hj
      rw [Array.append_assoc, Array.getElem?_append_right (by simp only [List.size_toArray, hlt]; omega), List.size_toArray, hlt, show m * io.size + j - m * io.size = j by omega, Array.getElem?_append_left (by simp only [List.size_toArray, Array.length_toList]; omega)]⟩
end
/-- A slice that came in: elements of width k, by f; it may be nil where there are none. -/
structure SlA (f : Nat → Array Value) (k : Nat) (w : World) (ad : Option Addr) (b o : Nat) (l : List Nat) : Prop where
  some : l ≠ [] → ad = some ⟨b, o, none⟩
  cell : ∀ i, i < l.length → ∀ j, j < k → w.cell? ⟨b, o + i * k + j, none⟩ = (f (l.getD i 0))[j]?
theorem SlA.sn {f : Nat → Array Value} {k : Nat} (hf : ∀ x, (f x).size = k) {D : Nat → Bool} {w0 w : World} {ad : Option Addr} {b o : Nat} {l : List Nat} (h : SlA f k w0 ad b o l) (hs : Sn D w0 w) (hd : D b = false) : SlA f k w ad b o l :=
  ⟨h.some, fun i hi j hj => by
    have e : (f (l.getD i 0))[j]? = Option.some ((f (l.getD i 0))[j]'(by rw [hf]; exact hj)) := by simp [hf, hj]
    rw [e]
    exact hs.cell ((h.cell i hi j hj).trans e) hd⟩
theorem SlA.of_row {f : Nat → Array Value} {k : Nat} (hf : ∀ x, (f x).size = k) {w : World} {b T : Nat} {fr : Nat × Nat} {l : List Nat} (h : w.heap[b]? = Option.some (.cells (flat f l) T fr)) : SlA f k w (Option.some ⟨b, 0, none⟩) b 0 l :=
  ⟨fun _ => rfl, fun i hi j hj => by rw [Nat.zero_add, cell_of_row w b _ _ T fr h]; exact flat_get hf hi j (by rw [hf]; exact hj)⟩
theorem SlA.at {f : Nat → Array Value} {k : Nat} {w : World} {ad : Option Addr} {b o : Nat} {l : List Nat} (h : SlA f k w ad b o l) {i : Nat} (hi : i < l.length) : ad = Option.some ⟨b, o, none⟩ := h.some (by
  intro e; subst e; exact absurd hi (by simp))
open Go.ChangeShapes Go.WideShapes in
theorem open_byC {H : Type} {enc : TypeId × Value → H} {P : Program} {W : World} {b0 : Nat} {sp : Nat → Bool} {held : Bool} {e u n fuel : Nat} {cs : List Value} {x : DataW H × List MemPlace} (he : P.underlying e = some (.array n u)) (hu : P.underlying u = some (.int .u8)) (hcu : P.cellsOf u = 1) (hl : cs.length = n)
    (h : DataW.trod enc P W b0 sp held fuel e cs = some x) : ∃ y, y < 256 ^ n ∧ cs = (byA n y).toList := by
  obtain ⟨xs, m, _, hx, _, hlen, hel⟩ := DataW.trod_array he h
  rw [hcu] at hel
  have hc : ∀ i, i < n → ∃ z : Nat, z < 256 ∧ cs[i]? = some (.int .u8 (z : Int)) := by
    intro i hi
    obtain ⟨y, hy⟩ : ∃ y, xs[i]? = some y := ⟨xs[i]'(by omega), by simp [hlen, hi]⟩
    have h1 := hel i hi
    rw [hy] at h1
    obtain ⟨z, e1, e2, wf⟩ := DataW.trod_int hu h1
    have e3 : cs[i]? = some (.int .u8 z) := by
      have : ((List.drop (i * 1) cs).take 1)[0]? = some (.int .u8 z) := by rw [e1]; rfl
      simpa [List.getElem?_take, List.getElem?_drop] using this
    simp only [Lit.wf, Bool.and_eq_true, decide_eq_true_eq] at wf
    have w1 : (0 : Int) ≤ z := wf.1
    have w2 : z ≤ 255 := wf.2
    exact ⟨z.toNat, by omega, by rw [Int.toNat_of_nonneg w1]; exact e3⟩
  have hg : ∃ f : Nat → Nat, ∀ i, i < n → f i < 256 ∧ cs[i]? = some (.int .u8 (f i : Int)) := by
    refine ⟨fun i => if h : i < n then Classical.choose (hc i h) else 0, fun i hi => ?_⟩
    simp only [hi, dif_pos]
    exact Classical.choose_spec (hc i hi)
  obtain ⟨f, hf'⟩ := hg
  obtain ⟨y, hy1, hy2⟩ := bytes_of n f fun i hi => (hf' i hi).1
  refine ⟨y, hy1, ?_⟩
  apply List.ext_getElem?
  intro i
  by_cases hi : i < n
  · have := byA_get (n := n) (v := y) hi
    rw [(hf' i hi).2, Array.getElem?_toList, this]
    unfold bv
    rw [hy2 i hi]
  · rw [List.getElem?_eq_none (by omega), List.getElem?_eq_none (by rw [Array.length_toList, byA_size]; omega)]
open Go.ChangeShapes Go.WideShapes Go.Deep in
/-- An argument that is a slice of arrays of bytes, opened. -/
theorem open_rows {H : Type} {enc : TypeId × Value → H} {P : Program} {W : World} {base b0 : Nat} {sp : Nat → Bool} {held : Bool} {t e u n : Nat} {v : Value} {d : DataW H} {p : List MemPlace}
    (ht : P.underlying t = some (.slice e)) (he : P.underlying e = some (.array n u)) (hu : P.underlying u = some (.int .u8)) (hcu : P.cellsOf u = 1) (hce : P.cellsOf e = n) (hn : 0 < n)
    (hv : Value.okWide P W .any base t v) (h : DataW.Trod enc P W b0 sp held t v d p) :
    ∃ (ad : Option Addr) (b o cap : Nat) (l : List Nat), v = .slice ad l.length cap ∧ l.length ≤ 9223372036854775807 ∧ (∀ i, i < l.length → l.getD i 0 < 256 ^ n) ∧ SlA (byA n) n W ad b o l := by
  obtain ⟨a0, len0, cap0, rfl⟩ := okWide_slice ht hv
  obtain ⟨fuel, hf⟩ := h
  rcases open_slice ht hf with ⟨h0, _⟩ | ⟨a, len, cap, m, nn, D, Pl, h0, hb, hl, hm, hmm, _, hx⟩
  · have h1 : Value.slice a0 len0 cap0 = .slice none 0 0 := by simpa [Value.cells] using h0
    rw [h1]
    exact ⟨none, 0, 0, 0, [], rfl, by simp, fun i hi => absurd hi (by simp), ⟨fun h => absurd rfl h, fun i hi => absurd hi (by simp)⟩⟩
  · have h1 : Value.slice a0 len0 cap0 = .slice (some a) len cap := by simpa [Value.cells] using h0
    rw [h1]
    have hlm : len ≤ m := by rw [hmm]; split <;> omega
    have hlen : len ≤ 9223372036854775807 := by
      have : cap ≤ 9223372036854775807 := hm
      omega
    rcases Nat.eq_zero_or_pos len with hz | hpos
    · subst hz
      exact ⟨some a, a.block, a.off, cap, [], rfl, by simp, fun i hi => absurd hi (by simp), ⟨fun h => absurd rfl h, fun i hi => absurd hi (by simp)⟩⟩
    obtain ⟨b, off, spot⟩ := a
    have hel : ∀ i, i < len → ∃ y, y < 256 ^ n ∧ ∀ j, j < n → W.cell? ((⟨b, off, spot⟩ : Addr).add (i * n + j)) = (byA n y)[j]? := fun i hi => by
      obtain ⟨cs', h2, h3⟩ := hx i (by omega)
      rw [hce] at h2
      obtain ⟨_, h4, h5⟩ := World.cells?_some h2
      obtain ⟨y, hy, rfl⟩ := open_byC he hu hcu h4 h3
      refine ⟨y, hy, fun j hj => ?_⟩
      have h6 := h5 j hj
      rw [add_add] at h6
      rw [h6]; simp
    have hspot : spot = none := by
      obtain ⟨y, _, hy⟩ := hel 0 hpos
      have h7 := hy 0 hn
      rw [byA_get hn] at h7
      simpa [Addr.add] using World.cell?_spot h7
    subst hspot
    obtain ⟨g, hg⟩ := choose_lt hel
    refine ⟨some ⟨b, off, none⟩, b, off, cap, (List.range len).map g, by simp, by simpa using hlen, fun i hi => ?_, ⟨fun _ => rfl, fun i hi j hj => ?_⟩⟩
    · have hi' : i < len := by simpa using hi
      have : ((List.range len).map g).getD i 0 = g i := by simp [List.getD, hi']
      rw [this]; exact (hg i hi').1
    · have hi' : i < len := by simpa using hi
      have : ((List.range len).map g).getD i 0 = g i := by simp [List.getD, hi']
      rw [this, ← (hg i hi').2 j hj, madd, Nat.add_assoc]
end Go.Proofs.YtjjofnjhnoobpaaDoor
