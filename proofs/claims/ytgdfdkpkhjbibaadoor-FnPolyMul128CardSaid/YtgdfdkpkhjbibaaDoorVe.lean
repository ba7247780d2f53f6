/-
  Products of polynomials (written by genve.py).
-/
import Derived.Test.YtgdfdkpkhjbibaaDoorHG
namespace Go.Proofs.YtgdfdkpkhjbibaaDoor
open Go.RowKit
theorem memR0 : ∀ v ∈ (Value.agg (rawC 0)).cells, v.oneCell' = true := fun v hv => by
  have h := rawC_one 0
  rw [Array.all_eq_true_iff_forall_mem] at h
  exact h v hv
theorem addN (a b : Nat) (h : a + b < 4611686018427387904) : IntKind.i64.wrap ((a : Int) + (b : Int)) = ((a + b : Nat) : Int) := by
  rw [IntKind.wrap_i64]; omega
theorem mulN (a b : Nat) (h : a * b < 4611686018427387904) : IntKind.i64.wrap ((a : Int) * (b : Int)) = ((a * b : Nat) : Int) := by
  rw [IntKind.wrap_i64, ← Int.natCast_mul]; omega
/-- A list's elements. -/
def gd (l : List Nat) : Nat → Nat := fun i => l.getD i 0
theorem gd_zero (l : List Nat) : ∀ k, l.length ≤ k → gd l k = 0 := fun k h => by simp [gd, List.getD, List.getElem?_eq_none h]
theorem mapR_len (f : Nat → Nat) (k : Nat) : ((List.range k).map f).length = k := by simp
theorem mapR_set {f g : Nat → Nat} {k j r : Nat} (hr : r = g j) (h : ∀ e, e ≠ j → f e = g e) : ((List.range k).map f).set j r = (List.range k).map g := by
  subst hr
  apply List.ext_getElem?
  intro e
  rw [List.getElem?_set]
  by_cases he : j = e
  · subst he
    by_cases hl : j < k
    · simp [hl]
    · simp [hl]
  · rw [if_neg he, List.getElem?_map, List.getElem?_map]
    cases hq : (List.range k)[e]? with
    | none => rfl
    | some z =>
      have hz : z = e := by
        have := List.getElem?_eq_some_iff.1 hq
        simpa using this.2.symm
      subst hz
      simp [h z (fun h => he h.symm)]
theorem mapR_rep {f : Nat → Nat} (k : Nat) (h : ∀ e, f e = 0) : (List.range k).map f = List.replicate k 0 := by
  apply List.ext_getElem?
  intro e
  by_cases he : e < k
  · simp [he, h]
  · simp [he]
/-- A product's coefficient behind i rows and k terms of row i. -/
def pst (x y : Nat → Nat) (i k e : Nat) : Nat := (cf x y i e + (if i ≤ e ∧ e < i + k then x i * y (e - i) else 0)) % pf
theorem pst_lt (x y : Nat → Nat) (i k e : Nat) : pst x y i k e < pf := Nat.mod_lt _ pf_pos
theorem pst_step (x y : Nat → Nat) (i k : Nat) : (pst x y i k (i + k) + x i * y k % pf) % pf = pst x y i (k + 1) (i + k) := by
  unfold pst
  rw [if_neg (by omega), if_pos (by omega), Nat.add_sub_cancel_left, Nat.add_zero, ← Nat.add_mod]
theorem pst_stepD (l m : List Nat) (i k : Nat) : (pst (gd l) (gd m) i k (i + k) + l.getD i 0 * m.getD k 0 % pf) % pf = pst (gd l) (gd m) i (k + 1) (i + k) := pst_step (gd l) (gd m) i k
theorem pst_other (x y : Nat → Nat) (i k : Nat) : ∀ e, e ≠ i + k → pst x y i k e = pst x y i (k + 1) e := fun e he => by
  unfold pst
  by_cases h : i ≤ e ∧ e < i + k
  · rw [if_pos h, if_pos (by omega)]
  · rw [if_neg h, if_neg (by omega)]
theorem pst_row (x y : Nat → Nat) {m : Nat} (hy : ∀ k, m ≤ k → y k = 0) (i : Nat) : pst x y i m = pst x y (i + 1) 0 := by
  funext e
  unfold pst
  rw [if_neg (show ¬ (i + 1 ≤ e ∧ e < i + 1 + 0) by omega)]
  show _ = (cf x y i e + (if i ≤ e then x i * y (e - i) else 0) + 0) % pf
  congr 1
  by_cases h : i ≤ e
  · rw [if_pos h]
    by_cases h2 : e < i + m
    · rw [if_pos ⟨h, h2⟩]; omega
    · rw [if_neg (by omega), hy (e - i) (by omega)]; omega
  · rw [if_neg h, if_neg (by omega)]
theorem pst_zero (x y : Nat → Nat) (e : Nat) : pst x y 0 0 e = 0 := by
  unfold pst
  rw [if_neg (by omega)]
  show (0 + 0) % pf = 0
  exact Nat.zero_mod _
/-- The product of two polynomials. -/
def prodL (l m : List Nat) : List Nat := (List.range (l.length + m.length - 1)).map (pst (gd l) (gd m) l.length 0)
theorem prodL_len (l m : List Nat) : (prodL l m).length = l.length + m.length - 1 := by simp [prodL]
theorem prodL_lt (l m : List Nat) : AllLt (prodL l m) := allLt_mapR fun _ _ => pst_lt _ _ _ _ _

theorem sumLen_p (a1 a2 a3 : Option Addr) (k n m c1 c2 c3 : Nat) (hk : k = n + m - 1) (h0 : 0 < n) (hl : n + m ≤ 1000000) : Pure Tryd.prog 120 #[.slice a1 k c1, .slice a2 n c2, .slice a3 m c3] (.tuple #[]) := by
  intro w
  refine calls_H (args := [.slice a1 k c1, .slice a2 n c2, .slice a3 m c3]) (noD) [] Tryd.func120 rfl (m := 16) rfl rfl (hold_nil _ _) ?_
  refine HC.seq ?_
  refine HC.region ?_
  refine HL.val (Val.move rfl) (by decide) ?_
  refine HL.val (Val.lenS rfl rfl Tryd.underlying102) (by decide) ?_
  refine HL.val (Val.move rfl) (by decide) ?_
  refine HL.val (Val.lenS rfl rfl Tryd.underlying102) (by decide) ?_
  refine HL.val (Val.move rfl) (by decide) ?_
  refine HL.val (Val.lenS rfl rfl Tryd.underlying102) (by decide) ?_
  refine HL.val ((Val.addI rfl rfl).as (congrArg (Value.int .i64) (addN n m (by omega)))) (by decide) ?_
  refine HL.val ((Val.subI rfl rfl).as (congrArg (Value.int .i64) (sub1N (by omega) (by omega)))) (by decide) ?_
  refine HL.val ((Val.neqI rfl rfl).as (congrArg Value.bool (neqL hk))) (by decide) ?_
  refine HL.nil ?_
  refine HQ.next ?_
  refine HC.no rfl ?_
  refine HC.skip ?_
  exact HQ.end0 rfl (pure_end rfl)

set_option maxRecDepth 100000 in
theorem mulSq_any {l m r : List Nat} {b k0 c0 : Nat} {ad1 ad2 : Option Addr} {d1 o1 c1 d2 o2 c2 : Nat} {w0 : World} (h0 : w0.heap[b]? = some (.cells (flat fpC r) 81 (0, 0))) (hr : r.length = k0) (hk0 : k0 = (l.length + m.length - 1)) (h1 : 0 < l.length) (hs1 : SlA fpC 2 w0 ad1 d1 o1 l) (hp1 : AllLt l) (hs2 : SlA fpC 2 w0 ad2 d2 o2 m) (hp2 : AllLt m) (hn1 : d1 ≠ b) (hn2 : d2 ≠ b) (hl : l.length + m.length ≤ 100000) :
    Calls Tryd.prog 102 #[.slice (some ⟨b, 0, none⟩) k0 c0, .slice ad1 l.length c1, .slice ad2 m.length c2] w0 fun e w' => e = .returned (.tuple #[]) ∧ Hold (fun k => k == b) w0 [(b, .cells (flat fpC (prodL l m)) 81 (0, 0))] w' := by
  refine calls_H (args := [.slice (some ⟨b, 0, none⟩) k0 c0, .slice ad1 l.length c1, .slice ad2 m.length c2]) (fun k => k == b) [(b, .cells (flat fpC r) 81 (0, 0))] Tryd.func102 rfl (m := 39) rfl rfl (hold_one h0) ?_
  refine HC.seq ?_
  refine HC.region ?_
  refine HL.val (Val.move rfl) (by decide) ?_
  refine HL.val (Val.move rfl) (by decide) ?_
  refine HL.val (Val.move rfl) (by decide) ?_
  refine HL.val (Val.call en120 (sumLen_p _ _ _ _ _ _ _ _ _ hk0 h1 (by omega)) rfl) (by decide) ?_
  refine HL.nil ?_
  refine HQ.next ?_
  refine HC.seq ?_
  refine HC.region ?_
  refine HL.val (Val.move rfl) (by decide) ?_
  refine HL.clear (s := 2) (z := .agg (rawC 0)) 0 rfl Tryd.underlying102 (by kernel_rfl) (by kernel_rfl) rfl (memR0) rfl (by rw [flat_size szE, hr]) made_els (ownB b) ?_
  simp only [List.set_cons_zero]
  refine HL.nil ?_
  refine HQ.next ?_
  refine HC.seq ?_
  refine HC.region ?_
  refine HL.new (New.alloc al81) (by decide) ?_
  intro b1 hb1
  refine HL.nil ?_
  refine HQ.next ?_
  refine HC.seq ?_
  refine HC.region ?_
  refine HL.val (Val.move rfl) (by decide) ?_
  refine HL.val (Val.lenS rfl rfl Tryd.underlying102) (by decide) ?_
  refine HL.val (Val.move rfl) (by decide) ?_
  refine HL.nil ?_
  refine HQ.next ?_
  refine HC.block ?_
  refine HC.loop (ι := {p : Nat × Nat // p.1 ≤ l.length}) (fun p => l.length - p.1.1) (fun p => [(0, .slice (some ⟨b, 0, none⟩) k0 c0), (1, .slice ad1 l.length c1), (2, .slice ad2 m.length c2), (6, .pointer (some ⟨b1, 0, none⟩)), (16, .int .i64 (p.1.1 : Int)), (15, .int .i64 (l.length : Int))]) (fun p => [(b, .cells (flat fpC ((List.range (l.length + m.length - 1)).map (pst (gd l) (gd m) p.1.1 0))) 81 (0, 0)), (b1, .cells (rawC p.1.2) 81 (0, 0))]) ⟨(0, 0), Nat.zero_le _⟩ (fun ac wc ha hw => ⟨ha.subS ⟨rfl, rfl, rfl, rfl, rfl, rfl, trivial⟩, by have h := hw.pick [1, 0] (by simp); dsimp only; rw [mapR_rep _ (pst_zero _ _), ← hk0]; exact h⟩) ?_
  rintro ⟨⟨i, z⟩, hi⟩
  dsimp only at hi ⊢
  refine HC.seq ?_
  refine HC.region ?_
  by_cases hil : i < l.length
  · refine HL.val ((Val.lss rfl rfl).as (congrArg Value.bool ((lssN i l.length).trans (decide_eq_true hil)))) (by decide) ?_
    refine HL.nil ?_
    refine HQ.next ?_
    refine HC.seq ?_
    refine HC.yes rfl ?_
    refine HC.skip ?_
    refine HQ.next ?_
    refine HC.seq ?_
    refine HC.block ?_
    refine HC.seq ?_
    refine HC.region ?_
    refine HL.val (Val.move rfl) (by decide) ?_
    refine HL.val (Val.assign rfl) (by decide) ?_
    refine HL.nil ?_
    refine HQ.next ?_
    refine HC.seq ?_
    refine HC.region ?_
    refine HL.val (Val.move rfl) (by decide) ?_
    refine HL.val (Val.lenS rfl rfl Tryd.underlying102) (by decide) ?_
    refine HL.val (Val.move rfl) (by decide) ?_
    refine HL.nil ?_
    refine HQ.next ?_
    refine HC.block ?_
    refine HC.loop (ι := {p : Nat × Nat // p.1 ≤ m.length}) (fun p => m.length - p.1.1) (fun p => [(0, .slice (some ⟨b, 0, none⟩) k0 c0), (1, .slice ad1 l.length c1), (2, .slice ad2 m.length c2), (6, .pointer (some ⟨b1, 0, none⟩)), (7, .int .i64 (i : Int)), (15, .int .i64 (l.length : Int)), (16, .int .i64 (i : Int)), (21, .int .i64 (p.1.1 : Int)), (20, .int .i64 (m.length : Int))]) (fun p => [(b, .cells (flat fpC ((List.range (l.length + m.length - 1)).map (pst (gd l) (gd m) i p.1.1))) 81 (0, 0)), (b1, .cells (rawC p.1.2) 81 (0, 0))]) ⟨(0, z), Nat.zero_le _⟩ (fun ac wc ha hw => ⟨ha.subS ⟨rfl, rfl, rfl, rfl, rfl, rfl, rfl, rfl, rfl, trivial⟩, hw.pick [0, 1] (by simp)⟩) ?_
    rintro ⟨⟨k, z2⟩, hk⟩
    dsimp only at hk ⊢
    refine HC.seq ?_
    refine HC.region ?_
    by_cases hkl : k < m.length
    · refine HL.val ((Val.lss rfl rfl).as (congrArg Value.bool ((lssN k m.length).trans (decide_eq_true hkl)))) (by decide) ?_
      refine HL.nil ?_
      refine HQ.next ?_
      refine HC.seq ?_
      refine HC.yes rfl ?_
      refine HC.skip ?_
      refine HQ.next ?_
      refine HC.seq ?_
      refine HC.block ?_
      refine HC.seq ?_
      refine HC.region ?_
      refine HL.val (Val.move rfl) (by decide) ?_
      refine HL.val (Val.assign rfl) (by decide) ?_
      refine HL.nil ?_
      refine HQ.next ?_
      refine HC.seq ?_
      refine HC.draw0 6 (by kernel_rfl) (by kernel_rfl) ?_
      simp only [List.take, List.drop]
      refine HV.val (Val.move rfl) (by decide) ?_
      refine HV.val (Val.move rfl) (by decide) ?_
      refine HV.val (Val.ixSliceA (s := 2) (i := i) (o1 + i * 2) rfl (hs1.at hil) rfl Tryd.underlying102 (by kernel_rfl) hil rfl) (by decide) ?_
      refine HV.val (Val.move rfl) (by decide) ?_
      refine HV.val (Val.move rfl) (by decide) ?_
      refine HV.val (Val.ixSliceA (s := 2) (i := k) (o2 + k * 2) rfl (hs2.at hkl) rfl Tryd.underlying102 (by kernel_rfl) hkl rfl) (by decide) ?_
      refine HV.tail0 ?_
      refine HL.callD en80 rfl (fpMulH (dstf1 1 rfl (.inl hb1)) (locS hs1 (by simpa using hn1) hil) (hp1.any i) (locS hs2 (by simpa using hn2) hkl) (hp2.any k)) (by decide) ?_
      simp only [List.set_cons_zero, List.set_cons_succ]
      refine HL.nil ?_
      refine HQ.next ?_
      refine HC.region ?_
      refine HL.val (Val.move rfl) (by decide) ?_
      refine HL.val (Val.move rfl) (by decide) ?_
      refine HL.val (Val.move rfl) (by decide) ?_
      refine HL.val ((Val.addI rfl rfl).as (congrArg (Value.int .i64) (addN i k (by omega)))) (by decide) ?_
      refine HL.val (Val.ixSlice (s := 2) (i := i + k) ((i + k) * 2) rfl rfl Tryd.underlying102 (by kernel_rfl) (by omega) (by omega)) (by decide) ?_
      refine HL.callD en112 rfl (fpAddAssignH (dstE 0 rfl (by rw [mapR_len]; omega) (ownB b)) (by rw [← mapR_get (pst (gd l) (gd m) i k) (show i + k < (l.length + m.length - 1) by omega)]; exact locE 0 rfl (by rw [mapR_len]; omega)) (pst_lt _ _ _ _ _) (loc1 1 rfl) (Nat.mod_lt _ pf_pos)) (by decide) ?_
      simp only [List.set_cons_zero]
      refine HL.nil ?_
      refine HQ.blockNormal ?_
      refine HQ.next ?_
      refine HC.region ?_
      refine HL.val ((Val.addI rfl rfl).as (congrArg (Value.int .i64) (wrap1 k (by omega)))) (by decide) ?_
      refine HL.val (Val.move rfl) (by decide) ?_
      refine HL.nil ?_
      exact ⟨fun ac wc ha hw => ⟨⟨(k + 1, mont (l.getD i 0 * m.getD k 0 % pf)), hkl⟩, by dsimp only; omega, ha.subS ⟨rfl, rfl, rfl, rfl, rfl, rfl, rfl, rfl, rfl, trivial⟩, by have h := hw.pick [0, 1] (by simp); simp only [List.filterMap_cons, List.filterMap_nil, List.getElem?_cons_zero, List.getElem?_cons_succ] at h; rw [mapR_set (pst_stepD l m i k) (pst_other (gd l) (gd m) i k)] at h; exact h⟩⟩
    · refine HL.val ((Val.lss rfl rfl).as (congrArg Value.bool ((lssN k m.length).trans (decide_eq_false hkl)))) (by decide) ?_
      refine HL.nil ?_
      refine HQ.next ?_
      refine HC.seq ?_
      refine HC.no rfl ?_
      refine HC.exit ?_
      refine HQ.thenExit ?_
      refine HQ.thenExit ?_
      refine HQ.blockExit ?_
      refine HQ.blockNormal ?_
      refine HQ.next ?_
      refine HC.region ?_
      refine HL.val ((Val.addI rfl rfl).as (congrArg (Value.int .i64) (wrap1 i (by omega)))) (by decide) ?_
      refine HL.val (Val.move rfl) (by decide) ?_
      refine HL.nil ?_
      obtain rfl : k = m.length := by omega
      exact ⟨fun ac wc ha hw => ⟨⟨(i + 1, z2), hil⟩, by dsimp only; omega, ha.subS ⟨rfl, rfl, rfl, rfl, rfl, rfl, trivial⟩, by have h := hw.pick [0, 1] (by simp); simp only [List.filterMap_cons, List.filterMap_nil, List.getElem?_cons_zero, List.getElem?_cons_succ] at h; rw [pst_row (gd l) (gd m) (gd_zero m) i] at h; exact h⟩⟩
  · refine HL.val ((Val.lss rfl rfl).as (congrArg Value.bool ((lssN i l.length).trans (decide_eq_false hil)))) (by decide) ?_
    refine HL.nil ?_
    refine HQ.next ?_
    refine HC.seq ?_
    refine HC.no rfl ?_
    refine HC.exit ?_
    refine HQ.thenExit ?_
    refine HQ.thenExit ?_
    refine HQ.blockExit ?_
    obtain rfl : i = l.length := by omega
    exact HQ.end0 rfl (fun w hw => ⟨rfl, hw.pick [0] (by simp)⟩)

/-- A square's coefficient: the squares of the first i. -/
def sq1 (x : Nat → Nat) (i e : Nat) : Nat := (if e % 2 = 0 ∧ e / 2 < i then x (e / 2) * x (e / 2) else 0) % pf
/-- .. then the pairs behind i rows, and those of row i up to k. -/
def sq2 (x : Nat → Nat) (i k e : Nat) : Nat := ((if e % 2 = 0 then x (e / 2) * x (e / 2) else 0) + sumN i (fun j => if j < e - j then 2 * (x j * x (e - j)) else 0) + (if i < e - i ∧ e - i < k then 2 * (x i * x (e - i)) else 0)) % pf
theorem sq1_set (x : Nat → Nat) (i : Nat) : x i * x i % pf = sq1 x (i + 1) (2 * i) := by
  unfold sq1; rw [if_pos (by omega), show 2 * i / 2 = i by omega]
theorem sq1_setD (l : List Nat) (i : Nat) : l.getD i 0 * l.getD i 0 % pf = sq1 (gd l) (i + 1) (2 * i) := sq1_set (gd l) i
theorem sq1_other (x : Nat → Nat) (i : Nat) : ∀ e, e ≠ 2 * i → sq1 x i e = sq1 x (i + 1) e := fun e he => by
  unfold sq1
  by_cases h : e % 2 = 0 ∧ e / 2 < i
  · rw [if_pos h, if_pos (by omega)]
  · rw [if_neg h, if_neg (by omega)]
theorem sq1_zero (x : Nat → Nat) (e : Nat) : sq1 x 0 e = 0 := by unfold sq1; rw [if_neg (by omega)]; exact Nat.zero_mod _
theorem sq1_end {x : Nat → Nat} {n : Nat} (hx : ∀ k, n ≤ k → x k = 0) : sq1 x n = sq2 x 0 1 := by
  funext e
  unfold sq1 sq2
  rw [if_neg (show ¬ (0 < e - 0 ∧ e - 0 < 1) by omega)]
  show _ = ((if e % 2 = 0 then x (e / 2) * x (e / 2) else 0) + 0 + 0) % pf
  congr 1
  by_cases h : e % 2 = 0
  · by_cases h2 : e / 2 < n
    · rw [if_pos ⟨h, h2⟩, if_pos h]; omega
    · rw [if_neg (by omega), if_pos h, hx _ (by omega)]
  · rw [if_neg (by omega), if_neg h]
theorem sq2_step (x : Nat → Nat) {i k : Nat} (h : i < k) : (sq2 x i k (i + k) + (x i * x k % pf + x i * x k % pf) % pf) % pf = sq2 x i (k + 1) (i + k) := by
  unfold sq2
  rw [if_neg (show ¬ (i < i + k - i ∧ i + k - i < k) by omega), if_pos (show i < i + k - i ∧ i + k - i < k + 1 by omega), Nat.add_sub_cancel_left, Nat.add_zero, ← Nat.add_mod, show 2 * (x i * x k) = x i * x k + x i * x k by omega, Nat.add_mod, ← Nat.add_mod (x i * x k), ← Nat.add_mod]
theorem sq2_stepD (l : List Nat) {i k : Nat} (h : i < k) : (sq2 (gd l) i k (i + k) + (l.getD i 0 * l.getD k 0 % pf + l.getD i 0 * l.getD k 0 % pf) % pf) % pf = sq2 (gd l) i (k + 1) (i + k) := sq2_step (gd l) h
theorem sq2_other (x : Nat → Nat) (i k : Nat) : ∀ e, e ≠ i + k → sq2 x i k e = sq2 x i (k + 1) e := fun e he => by
  unfold sq2
  by_cases h : i < e - i ∧ e - i < k
  · rw [if_pos h, if_pos (show i < e - i ∧ e - i < k + 1 by omega)]
  · rw [if_neg h, if_neg (show ¬ (i < e - i ∧ e - i < k + 1) by omega)]
theorem sq2_row {x : Nat → Nat} {n : Nat} (hx : ∀ k, n ≤ k → x k = 0) {i k : Nat} (hk : n ≤ k) : sq2 x i k = sq2 x (i + 1) (i + 1 + 1) := by
  funext e
  unfold sq2
  rw [if_neg (show ¬ (i + 1 < e - (i + 1) ∧ e - (i + 1) < i + 1 + 1) by omega)]
  show _ = ((if e % 2 = 0 then x (e / 2) * x (e / 2) else 0) + (sumN i (fun j => if j < e - j then 2 * (x j * x (e - j)) else 0) + (if i < e - i then 2 * (x i * x (e - i)) else 0)) + 0) % pf
  congr 1
  by_cases h : i < e - i
  · by_cases h2 : e - i < k
    · rw [if_pos (show i < e - i ∧ e - i < k from ⟨h, h2⟩), if_pos h]; omega
    · rw [if_neg (show ¬ (i < e - i ∧ e - i < k) by omega), if_pos h, hx (e - i) (by omega)]; omega
  · rw [if_neg (show ¬ (i < e - i ∧ e - i < k) by omega), if_neg h]; omega
theorem sq2_end {x : Nat → Nat} {n : Nat} (hx : ∀ k, n ≤ k → x k = 0) : sq2 x n (n + 1) = pst x x n 0 := by
  funext e
  unfold sq2 pst
  rw [if_neg (show ¬ (n < e - n ∧ e - n < n + 1) by omega), if_neg (show ¬ (n ≤ e ∧ e < n + 0) by omega), cf_sqr x hx e]
theorem sq2_lt (x : Nat → Nat) (i k e : Nat) : sq2 x i k e < pf := Nat.mod_lt _ pf_pos

set_option maxRecDepth 100000 in
theorem psqr_any {l r : List Nat} {b k0 c0 : Nat} {ad1 : Option Addr} {d1 o1 c1 : Nat} {w0 : World} (h0 : w0.heap[b]? = some (.cells (flat fpC r) 81 (0, 0))) (hr : r.length = k0) (hk0 : k0 = (l.length + l.length - 1)) (h1 : 0 < l.length) (hs1 : SlA fpC 2 w0 ad1 d1 o1 l) (hp1 : AllLt l) (hn1 : d1 ≠ b) (hl : l.length ≤ 10000) :
    Calls Tryd.prog 98 #[.slice (some ⟨b, 0, none⟩) k0 c0, .slice ad1 l.length c1] w0 fun e w' => e = .returned (.tuple #[]) ∧ Hold (fun k => k == b) w0 [(b, .cells (flat fpC (prodL l l)) 81 (0, 0))] w' := by
  refine calls_H (args := [.slice (some ⟨b, 0, none⟩) k0 c0, .slice ad1 l.length c1]) (fun k => k == b) [(b, .cells (flat fpC r) 81 (0, 0))] Tryd.func98 rfl (m := 55) rfl rfl (hold_one h0) ?_
  refine HC.seq ?_
  refine HC.region ?_
  refine HL.val (Val.move rfl) (by decide) ?_
  refine HL.val (Val.move rfl) (by decide) ?_
  refine HL.val (Val.move rfl) (by decide) ?_
  refine HL.val (Val.call en120 (sumLen_p _ _ _ _ _ _ _ _ _ hk0 h1 (by omega)) rfl) (by decide) ?_
  refine HL.nil ?_
  refine HQ.next ?_
  refine HC.seq ?_
  refine HC.region ?_
  refine HL.val (Val.move rfl) (by decide) ?_
  refine HL.clear (s := 2) (z := .agg (rawC 0)) 0 rfl Tryd.underlying102 (by kernel_rfl) (by kernel_rfl) rfl (memR0) rfl (by rw [flat_size szE, hr]) made_els (ownB b) ?_
  simp only [List.set_cons_zero]
  refine HL.nil ?_
  refine HQ.next ?_
  refine HC.seq ?_
  refine HC.seq ?_
  refine HC.region ?_
  refine HL.val (Val.move rfl) (by decide) ?_
  refine HL.val (Val.lenS rfl rfl Tryd.underlying102) (by decide) ?_
  refine HL.val (Val.move rfl) (by decide) ?_
  refine HL.nil ?_
  refine HQ.next ?_
  refine HC.block ?_
  refine HC.loop (ι := {p : Nat // p ≤ l.length}) (fun p => l.length - p.1) (fun p => [(0, .slice (some ⟨b, 0, none⟩) k0 c0), (1, .slice ad1 l.length c1), (15, .int .i64 (p.1 : Int)), (14, .int .i64 (l.length : Int))]) (fun p => [(b, .cells (flat fpC ((List.range (l.length + l.length - 1)).map (sq1 (gd l) p.1))) 81 (0, 0))]) ⟨0, Nat.zero_le _⟩ (fun ac wc ha hw => ⟨ha.subS ⟨rfl, rfl, rfl, rfl, trivial⟩, by have h := hw.pick [0] (by simp); dsimp only; rw [mapR_rep _ (sq1_zero _), ← hk0]; exact h⟩) ?_
  rintro ⟨i, hi⟩
  dsimp only
  refine HC.seq ?_
  refine HC.region ?_
  by_cases hil : i < l.length
  · refine HL.val ((Val.lss rfl rfl).as (congrArg Value.bool ((lssN i l.length).trans (decide_eq_true hil)))) (by decide) ?_
    refine HL.nil ?_
    refine HQ.next ?_
    refine HC.seq ?_
    refine HC.yes rfl ?_
    refine HC.skip ?_
    refine HQ.next ?_
    refine HC.seq ?_
    refine HC.block ?_
    refine HC.seq ?_
    refine HC.region ?_
    refine HL.val (Val.move rfl) (by decide) ?_
    refine HL.val (Val.assign rfl) (by decide) ?_
    refine HL.nil ?_
    refine HQ.next ?_
    refine HC.draw0 7 (by kernel_rfl) (by kernel_rfl) ?_
    simp only [List.take, List.drop]
    refine HV.val (Val.move rfl) (by decide) ?_
    refine HV.val (Val.move rfl) (by decide) ?_
    refine HV.val ((Val.mulI rfl rfl).as (congrArg (Value.int .i64) (mulN 2 i (by omega)))) (by decide) ?_
    refine HV.val (Val.ixSlice (s := 2) (i := 2 * i) (2 * i * 2) rfl rfl Tryd.underlying102 (by kernel_rfl) (by omega) (by omega)) (by decide) ?_
    refine HV.val (Val.move rfl) (by decide) ?_
    refine HV.val (Val.move rfl) (by decide) ?_
    refine HV.val (Val.ixSliceA (s := 2) (i := i) (o1 + i * 2) rfl (hs1.at hil) rfl Tryd.underlying102 (by kernel_rfl) hil rfl) (by decide) ?_
    refine HV.tail0 ?_
    refine HL.callD en87 rfl (fpSqrH (dstE 0 rfl (by rw [mapR_len]; omega) (ownB b)) (locS hs1 (by simpa using hn1) hil) (hp1.any i)) (by decide) ?_
    simp only [List.set_cons_zero]
    refine HL.nil ?_
    refine HQ.blockNormal ?_
    refine HQ.next ?_
    refine HC.region ?_
    refine HL.val ((Val.addI rfl rfl).as (congrArg (Value.int .i64) (wrap1 i (by omega)))) (by decide) ?_
    refine HL.val (Val.move rfl) (by decide) ?_
    refine HL.nil ?_
    exact ⟨fun ac wc ha hw => ⟨⟨i + 1, hil⟩, by dsimp only; omega, ha.subS ⟨rfl, rfl, rfl, rfl, trivial⟩, by have h := hw.pick [0] (by simp); simp only [List.filterMap_cons, List.filterMap_nil, List.getElem?_cons_zero] at h; rw [mapR_set (sq1_setD l i) (sq1_other (gd l) i)] at h; exact h⟩⟩
  · refine HL.val ((Val.lss rfl rfl).as (congrArg Value.bool ((lssN i l.length).trans (decide_eq_false hil)))) (by decide) ?_
    refine HL.nil ?_
    refine HQ.next ?_
    refine HC.seq ?_
    refine HC.no rfl ?_
    refine HC.exit ?_
    refine HQ.thenExit ?_
    refine HQ.thenExit ?_
    refine HQ.blockExit ?_
    refine HQ.next ?_
    refine HC.seq ?_
    refine HC.region ?_
    refine HL.new (New.alloc al81) (by decide) ?_
    intro b1 hb1
    refine HL.nil ?_
    refine HQ.next ?_
    refine HC.seq ?_
    refine HC.region ?_
    refine HL.val (Val.assign rfl) (by decide) ?_
    refine HL.nil ?_
    refine HQ.next ?_
    refine HC.block ?_
    refine HC.loop (ι := {p : Nat × Nat // p.1 ≤ l.length}) (fun p => l.length - p.1.1) (fun p => [(0, .slice (some ⟨b, 0, none⟩) k0 c0), (1, .slice ad1 l.length c1), (5, .pointer (some ⟨b1, 0, none⟩)), (6, .int .i64 (p.1.1 : Int))]) (fun p => [(b, .cells (flat fpC ((List.range (l.length + l.length - 1)).map (sq2 (gd l) p.1.1 (p.1.1 + 1)))) 81 (0, 0)), (b1, .cells (rawC p.1.2) 81 (0, 0))]) ⟨(0, 0), Nat.zero_le _⟩ (fun ac wc ha hw => ⟨ha.subS ⟨rfl, rfl, rfl, rfl, trivial⟩, by obtain rfl : i = l.length := (by omega); have h := hw.pick [1, 0] (by simp); dsimp only; rw [← sq1_end (gd_zero l)]; exact h⟩) ?_
    rintro ⟨⟨i, z⟩, hi⟩
    dsimp only at hi ⊢
    refine HC.seq ?_
    refine HC.seq ?_
    refine HC.region ?_
    refine HL.val (Val.move rfl) (by decide) ?_
    refine HL.val (Val.move rfl) (by decide) ?_
    refine HL.val (Val.lenS rfl rfl Tryd.underlying102) (by decide) ?_
    by_cases hil : i < l.length
    · refine HL.val ((Val.lss rfl rfl).as (congrArg Value.bool ((lssN i l.length).trans (decide_eq_true hil)))) (by decide) ?_
      refine HL.nil ?_
      refine HQ.next ?_
      refine HC.yes rfl ?_
      refine HC.skip ?_
      refine HQ.next ?_
      refine HC.seq ?_
      refine HC.block ?_
      refine HC.seq ?_
      refine HC.region ?_
      refine HL.val (Val.move rfl) (by decide) ?_
      refine HL.val ((Val.addI rfl rfl).as (congrArg (Value.int .i64) (wrap1 i (by omega)))) (by decide) ?_
      refine HL.val (Val.assign rfl) (by decide) ?_
      refine HL.nil ?_
      refine HQ.next ?_
      refine HC.block ?_
      refine HC.loop (ι := {p : Nat × Nat // i < p.1 ∧ p.1 ≤ l.length + 1}) (fun p => l.length + 1 - p.1.1) (fun p => [(0, .slice (some ⟨b, 0, none⟩) k0 c0), (1, .slice ad1 l.length c1), (5, .pointer (some ⟨b1, 0, none⟩)), (6, .int .i64 (i : Int)), (7, .int .i64 (p.1.1 : Int))]) (fun p => [(b, .cells (flat fpC ((List.range (l.length + l.length - 1)).map (sq2 (gd l) i p.1.1))) 81 (0, 0)), (b1, .cells (rawC p.1.2) 81 (0, 0))]) ⟨(i + 1, z), by dsimp only; omega⟩ (fun ac wc ha hw => ⟨ha.subS ⟨rfl, rfl, rfl, rfl, rfl, trivial⟩, hw.pick [0, 1] (by simp)⟩) ?_
      rintro ⟨⟨k, z2⟩, hk⟩
      dsimp only at hk ⊢
      refine HC.seq ?_
      refine HC.seq ?_
      refine HC.region ?_
      refine HL.val (Val.move rfl) (by decide) ?_
      refine HL.val (Val.move rfl) (by decide) ?_
      refine HL.val (Val.lenS rfl rfl Tryd.underlying102) (by decide) ?_
      by_cases hkl : k < l.length
      · refine HL.val ((Val.lss rfl rfl).as (congrArg Value.bool ((lssN k l.length).trans (decide_eq_true hkl)))) (by decide) ?_
        refine HL.nil ?_
        refine HQ.next ?_
        refine HC.yes rfl ?_
        refine HC.skip ?_
        refine HQ.next ?_
        refine HC.seq ?_
        refine HC.block ?_
        refine HC.seq ?_
        refine HC.draw0 6 (by kernel_rfl) (by kernel_rfl) ?_
        simp only [List.take, List.drop]
        refine HV.val (Val.move rfl) (by decide) ?_
        refine HV.val (Val.move rfl) (by decide) ?_
        refine HV.val (Val.ixSliceA (s := 2) (i := i) (o1 + i * 2) rfl (hs1.at hil) rfl Tryd.underlying102 (by kernel_rfl) hil rfl) (by decide) ?_
        refine HV.val (Val.move rfl) (by decide) ?_
        refine HV.val (Val.move rfl) (by decide) ?_
        refine HV.val (Val.ixSliceA (s := 2) (i := k) (o1 + k * 2) rfl (hs1.at hkl) rfl Tryd.underlying102 (by kernel_rfl) hkl rfl) (by decide) ?_
        refine HV.tail0 ?_
        refine HL.callD en80 rfl (fpMulH (dstf1 1 rfl (.inl hb1)) (locS hs1 (by simpa using hn1) hil) (hp1.any i) (locS hs1 (by simpa using hn1) hkl) (hp1.any k)) (by decide) ?_
        simp only [List.set_cons_zero, List.set_cons_succ]
        refine HL.nil ?_
        refine HQ.next ?_
        refine HC.seq ?_
        refine HC.region ?_
        refine HL.callD en112 rfl (fpAddAssignH (dstf1 1 rfl (.inl hb1)) (loc1 1 rfl) (Nat.mod_lt _ pf_pos) (loc1 1 rfl) (Nat.mod_lt _ pf_pos)) (by decide) ?_
        simp only [List.set_cons_zero, List.set_cons_succ]
        refine HL.nil ?_
        refine HQ.next ?_
        refine HC.region ?_
        refine HL.val (Val.move rfl) (by decide) ?_
        refine HL.val (Val.move rfl) (by decide) ?_
        refine HL.val (Val.move rfl) (by decide) ?_
        refine HL.val ((Val.addI rfl rfl).as (congrArg (Value.int .i64) (addN i k (by omega)))) (by decide) ?_
        refine HL.val (Val.ixSlice (s := 2) (i := i + k) ((i + k) * 2) rfl rfl Tryd.underlying102 (by kernel_rfl) (by omega) (by omega)) (by decide) ?_
        refine HL.callD en112 rfl (fpAddAssignH (dstE 0 rfl (by rw [mapR_len]; omega) (ownB b)) (by rw [← mapR_get (sq2 (gd l) i k) (show i + k < (l.length + l.length - 1) by omega)]; exact locE 0 rfl (by rw [mapR_len]; omega)) (sq2_lt _ _ _ _) (loc1 1 rfl) (Nat.mod_lt _ pf_pos)) (by decide) ?_
        simp only [List.set_cons_zero]
        refine HL.nil ?_
        refine HQ.blockNormal ?_
        refine HQ.next ?_
        refine HC.region ?_
        refine HL.val (Val.move rfl) (by decide) ?_
        refine HL.val ((Val.addI rfl rfl).as (congrArg (Value.int .i64) (wrap1 k (by omega)))) (by decide) ?_
        refine HL.val (Val.assign rfl) (by decide) ?_
        refine HL.nil ?_
        exact ⟨fun ac wc ha hw => ⟨⟨(k + 1, mont ((l.getD i 0 * l.getD k 0 % pf + l.getD i 0 * l.getD k 0 % pf) % pf)), by dsimp only; omega⟩, by dsimp only; omega, ha.subS ⟨rfl, rfl, rfl, rfl, rfl, trivial⟩, by have h := hw.pick [0, 1] (by simp); simp only [List.filterMap_cons, List.filterMap_nil, List.getElem?_cons_zero, List.getElem?_cons_succ] at h; rw [mapR_set (sq2_stepD l hk.1) (sq2_other (gd l) i k)] at h; exact h⟩⟩
      · refine HL.val ((Val.lss rfl rfl).as (congrArg Value.bool ((lssN k l.length).trans (decide_eq_false hkl)))) (by decide) ?_
        refine HL.nil ?_
        refine HQ.next ?_
        refine HC.no rfl ?_
        refine HC.exit ?_
        refine HQ.thenExit ?_
        refine HQ.thenExit ?_
        refine HQ.blockExit ?_
        refine HQ.blockNormal ?_
        refine HQ.next ?_
        refine HC.region ?_
        refine HL.val (Val.move rfl) (by decide) ?_
        refine HL.val ((Val.addI rfl rfl).as (congrArg (Value.int .i64) (wrap1 i (by omega)))) (by decide) ?_
        refine HL.val (Val.assign rfl) (by decide) ?_
        refine HL.nil ?_
        exact ⟨fun ac wc ha hw => ⟨⟨(i + 1, z2), hil⟩, by dsimp only; omega, ha.subS ⟨rfl, rfl, rfl, rfl, trivial⟩, by have h := hw.pick [0, 1] (by simp); simp only [List.filterMap_cons, List.filterMap_nil, List.getElem?_cons_zero, List.getElem?_cons_succ] at h; rw [sq2_row (gd_zero l) (show l.length ≤ k by omega)] at h; exact h⟩⟩
    · refine HL.val ((Val.lss rfl rfl).as (congrArg Value.bool ((lssN i l.length).trans (decide_eq_false hil)))) (by decide) ?_
      refine HL.nil ?_
      refine HQ.next ?_
      refine HC.no rfl ?_
      refine HC.exit ?_
      refine HQ.thenExit ?_
      refine HQ.thenExit ?_
      refine HQ.blockExit ?_
      obtain rfl : i = l.length := by omega
      exact HQ.end0 rfl (fun w hw => ⟨rfl, by have h := hw.pick [0] (by simp); simp only [List.filterMap_cons, List.filterMap_nil, List.getElem?_cons_zero] at h; rw [sq2_end (gd_zero l)] at h; exact h⟩)

theorem wrow_map {f : Nat → Nat} {m k : Nat} (h : k < m) : ∀ j, j < (wA (f k)).size → (flat wA ((List.range m).map f))[k * 2 + j]? = (wA (f k))[j]? := fun j hj => by
  have h2 := flat_get szWA (l := (List.range m).map f) (i := k) (by simpa using h) j (by rw [szWA] at hj ⊢; exact hj)
  rwa [mapR_get f h] at h2
theorem roomW {k m : Nat} (h : k < m) : k * 2 + 2 ≤ m * 2 := by omega
set_option maxRecDepth 100000 in
theorem sprod_any {l m : List Nat} {ad1 ad2 : Option Addr} {d1 o1 c1 d2 o2 c2 : Nat} {w : World} (h1 : 0 < l.length) (hs1 : SlA wA 2 w ad1 d1 o1 l) (hp1 : AllLt l) (hs2 : SlA wA 2 w ad2 d2 o2 m) (hp2 : AllLt m) (hl : l.length + m.length ≤ 100000) :
    Calls Tryd.prog 61 #[.agg fA, .slice ad1 l.length c1, .slice ad2 m.length c2] w fun e w' => ∃ r : Fam, True ∧ e = .returned (.slice (some ⟨r.1, 0, none⟩) (l.length + m.length - 1) (l.length + m.length - 1)) ∧ Below w.heap.size w w' ∧ w.heap.size ≤ r.1 ∧ w'.heap[r.1]? = some (.cells (flat wA (prodL l m)) 25 (0, 0)) := by
  refine calls_H (args := [.agg fA, .slice ad1 l.length c1, .slice ad2 m.length c2]) (noD) [] Tryd.func61 rfl (m := 53) rfl rfl (hold_nil _ _) ?_
  refine HC.seq ?_
  refine HC.region ?_
  refine HL.new (New.box rfl) (by decide) ?_
  intro b1 hb1
  refine HL.val (Val.assign rfl) (by decide) ?_
  refine HL.nil ?_
  refine HQ.next ?_
  refine HC.seq ?_
  refine HC.region ?_
  refine HL.val (Val.move rfl) (by decide) ?_
  refine HL.val (Val.lenS rfl rfl Tryd.underlying51) (by decide) ?_
  refine HL.val (Val.move rfl) (by decide) ?_
  refine HL.val (Val.lenS rfl rfl Tryd.underlying51) (by decide) ?_
  refine HL.val ((Val.addI rfl rfl).as (congrArg (Value.int .i64) (addN l.length m.length (by omega)))) (by decide) ?_
  refine HL.val ((Val.subI rfl rfl).as (congrArg (Value.int .i64) (sub1N (by omega) (by omega)))) (by decide) ?_
  refine HL.new (New.make (s := 2) (by' := 16) (z := .agg (wA 0)) (l.length + m.length - 1) rfl rfl Tryd.underlying51 (by kernel_rfl) (by kernel_rfl) (by kernel_rfl) (by omega) (by omega) (flat_made szWA (l.length + m.length - 1))) (by decide) ?_
  intro b2 hb2
  refine HL.val (Val.assign rfl) (by decide) ?_
  refine HL.nil ?_
  refine HQ.next ?_
  refine HC.seq ?_
  refine HC.seq ?_
  refine HC.region ?_
  refine HL.val (Val.move rfl) (by decide) ?_
  refine HL.val (Val.lenS rfl rfl Tryd.underlying51) (by decide) ?_
  refine HL.val (Val.move rfl) (by decide) ?_
  refine HL.nil ?_
  refine HQ.next ?_
  refine HC.block ?_
  refine HC.loop (ι := {p : Nat // p ≤ l.length}) (fun p => l.length - p.1) (fun p => [(1, .slice ad1 l.length c1), (2, .slice ad2 m.length c2), (3, .pointer (some ⟨b1, 0, none⟩)), (7, .slice (some ⟨b2, 0, none⟩) (l.length + m.length - 1) (l.length + m.length - 1)), (19, .slice ad1 l.length c1), (21, .int .i64 (p.1 : Int)), (20, .int .i64 (l.length : Int))]) (fun p => [(b2, .cells (flat wA ((List.range (l.length + m.length - 1)).map (pst (gd l) (gd m) p.1 0))) 25 (0, 0)), (b1, .cells fA 27 (0, 0))]) ⟨0, Nat.zero_le _⟩ (fun ac wc ha hw => ⟨ha.subS ⟨rfl, rfl, rfl, rfl, rfl, rfl, rfl, trivial⟩, by have h := hw.pick [0, 1] (by simp); dsimp only; rw [mapR_rep _ (pst_zero _ _)]; exact h⟩) ?_
  rintro ⟨i, hi⟩
  dsimp only
  refine HC.seq ?_
  refine HC.region ?_
  by_cases hil : i < l.length
  · refine HL.val ((Val.lss rfl rfl).as (congrArg Value.bool ((lssN i l.length).trans (decide_eq_true hil)))) (by decide) ?_
    refine HL.nil ?_
    refine HQ.next ?_
    refine HC.seq ?_
    refine HC.yes rfl ?_
    refine HC.skip ?_
    refine HQ.next ?_
    refine HC.seq ?_
    refine HC.block ?_
    refine HC.seq ?_
    refine HC.region ?_
    refine HL.val (Val.move rfl) (by decide) ?_
    refine HL.val (Val.ixSliceA (s := 2) (i := i) (o1 + i * 2) rfl (hs1.at hil) rfl Tryd.underlying51 (by kernel_rfl) hil rfl) (by decide) ?_
    refine HL.val (Val.load_cells (wA (l.getD i 0)) rfl (fun w hw => (hs1.sn szWA hw.sn rfl).row szWA hil) Tryd.underlying25 rfl (by kernel_rfl)) (by decide) ?_
    refine HL.new (New.alloc al25) (by decide) ?_
    intro b3 hb3
    refine HL.val (Val.assign rfl) (by decide) ?_
    refine HL.put 0 rfl (Put.row rfl rfl (by kernel_rfl) rfl (wA_one _)) (.inl hb3) ?_
    simp only [List.set_cons_zero]
    refine HL.nil ?_
    refine HQ.next ?_
    refine HC.seq ?_
    refine HC.region ?_
    refine HL.val (Val.move rfl) (by decide) ?_
    refine HL.val (Val.lenS rfl rfl Tryd.underlying51) (by decide) ?_
    refine HL.val (Val.move rfl) (by decide) ?_
    refine HL.nil ?_
    refine HQ.next ?_
    refine HC.block ?_
    refine HC.loop (ι := {p : Nat // p ≤ m.length}) (fun p => m.length - p.1) (fun p => [(1, .slice ad1 l.length c1), (2, .slice ad2 m.length c2), (3, .pointer (some ⟨b1, 0, none⟩)), (7, .slice (some ⟨b2, 0, none⟩) (l.length + m.length - 1) (l.length + m.length - 1)), (8, .int .i64 (i : Int)), (9, .pointer (some ⟨b3, 0, none⟩)), (21, .int .i64 (i : Int)), (20, .int .i64 (l.length : Int)), (19, .slice ad1 l.length c1), (26, .slice ad2 m.length c2), (28, .int .i64 (p.1 : Int)), (27, .int .i64 (m.length : Int))]) (fun p => [(b2, .cells (flat wA ((List.range (l.length + m.length - 1)).map (pst (gd l) (gd m) i p.1))) 25 (0, 0)), (b1, .cells fA 27 (0, 0)), (b3, .cells (wA (l.getD i 0)) 25 (0, 0))]) ⟨0, Nat.zero_le _⟩ (fun ac wc ha hw => ⟨ha.subS ⟨rfl, rfl, rfl, rfl, rfl, rfl, rfl, rfl, rfl, rfl, rfl, rfl, trivial⟩, hw.pick [1, 2, 0] (by simp)⟩) ?_
    rintro ⟨k, hk⟩
    dsimp only
    refine HC.seq ?_
    refine HC.region ?_
    by_cases hkl : k < m.length
    · refine HL.val ((Val.lss rfl rfl).as (congrArg Value.bool ((lssN k m.length).trans (decide_eq_true hkl)))) (by decide) ?_
      refine HL.nil ?_
      refine HQ.next ?_
      refine HC.seq ?_
      refine HC.yes rfl ?_
      refine HC.skip ?_
      refine HQ.next ?_
      refine HC.seq ?_
      refine HC.block ?_
      refine HC.seq ?_
      refine HC.region ?_
      refine HL.val (Val.move rfl) (by decide) ?_
      refine HL.val (Val.ixSliceA (s := 2) (i := k) (o2 + k * 2) rfl (hs2.at hkl) rfl Tryd.underlying51 (by kernel_rfl) hkl rfl) (by decide) ?_
      refine HL.val (Val.load_cells (wA (m.getD k 0)) rfl (fun w hw => (hs2.sn szWA hw.sn rfl).row szWA hkl) Tryd.underlying25 rfl (by kernel_rfl)) (by decide) ?_
      refine HL.new (New.alloc al25) (by decide) ?_
      intro b4 hb4
      refine HL.val (Val.assign rfl) (by decide) ?_
      refine HL.put 0 rfl (Put.row rfl rfl (by kernel_rfl) rfl (wA_one _)) (.inl hb4) ?_
      simp only [List.set_cons_zero]
      refine HL.nil ?_
      refine HQ.next ?_
      refine HC.draw0 17 (by kernel_rfl) (by kernel_rfl) ?_
      simp only [List.take, List.drop]
      refine HV.val (Val.move rfl) (by decide) ?_
      refine HV.val (Val.move rfl) (by decide) ?_
      refine HV.val (Val.move rfl) (by decide) ?_
      refine HV.val ((Val.addI rfl rfl).as (congrArg (Value.int .i64) (addN i k (by omega)))) (by decide) ?_
      refine HV.val (Val.load_row rfl (fun w hw => hw.at (i := 2) rfl) Tryd.underlying27 rfl (by kernel_rfl)) (by decide) ?_
      refine HV.val (Val.move rfl) (by decide) ?_
      refine HV.val (Val.move rfl) (by decide) ?_
      refine HV.val (Val.move rfl) (by decide) ?_
      refine HV.val ((Val.addI rfl rfl).as (congrArg (Value.int .i64) (addN i k (by omega)))) (by decide) ?_
      refine HV.val (Val.ixSlice (s := 2) (i := i + k) ((i + k) * 2) rfl rfl Tryd.underlying51 (by kernel_rfl) (by omega) (by omega)) (by decide) ?_
      refine HV.val (Val.load_mid rfl (fun w hw => hw.at (i := 1) rfl) (wA (pst (gd l) (gd m) i k (i + k))) (wrow_map (f := pst (gd l) (gd m) i k) (show i + k < (l.length + m.length - 1) by omega)) Tryd.underlying25 rfl (by kernel_rfl)) (by decide) ?_
      refine HV.val (Val.load_row rfl (fun w hw => hw.at (i := 2) rfl) Tryd.underlying27 rfl (by kernel_rfl)) (by decide) ?_
      refine HV.val (Val.load_row rfl (fun w hw => hw.at (i := 3) rfl) Tryd.underlying25 rfl (by kernel_rfl)) (by decide) ?_
      refine HV.val (Val.load_row rfl (fun w hw => hw.at (i := 0) rfl) Tryd.underlying25 rfl (by kernel_rfl)) (by decide) ?_
      refine HV.val (Val.call en45 (smul_p ((l.getD i 0)) ((m.getD k 0)) (hp1.any i) (lt_b (hp2.any k))) rfl) (by decide) ?_
      refine HV.val (Val.call en41 (sadd_p ((pst (gd l) (gd m) i k (i + k))) ((((l.getD i 0)) * ((m.getD k 0)) % pf)) (pst_lt _ _ _ _ _) (Nat.mod_lt _ pf_pos)) rfl) (by decide) ?_
      refine HV.val (Val.ixSlice (s := 2) (i := i + k) ((i + k) * 2) rfl rfl Tryd.underlying51 (by kernel_rfl) (by omega) (by omega)) (by decide) ?_
      refine HV.tail0 ?_
      refine HL.put 1 rfl (Put.mid rfl rfl (by kernel_rfl) (by rw [flat_size szWA, mapR_len]; exact roomW (show i + k < (l.length + m.length - 1) by omega)) (wA_one _) (by rw [flat_size szWA, flat_size szWA, List.length_set]) (flat_set szWA (show i + k < ((List.range (l.length + m.length - 1)).map (pst (gd l) (gd m) i k)).length by rw [mapR_len]; omega) (((((pst (gd l) (gd m) i k (i + k))) + ((((l.getD i 0)) * ((m.getD k 0)) % pf))) % pf)))) (.inl hb2) ?_
      simp only [List.set_cons_zero, List.set_cons_succ]
      refine HL.nil ?_
      refine HQ.blockNormal ?_
      refine HQ.next ?_
      refine HC.region ?_
      refine HL.val ((Val.addI rfl rfl).as (congrArg (Value.int .i64) (wrap1 k (by omega)))) (by decide) ?_
      refine HL.val (Val.move rfl) (by decide) ?_
      refine HL.nil ?_
      exact ⟨fun ac wc ha hw => ⟨⟨k + 1, hkl⟩, by dsimp only; omega, ha.subS ⟨rfl, rfl, rfl, rfl, rfl, rfl, rfl, rfl, rfl, rfl, rfl, rfl, trivial⟩, by have h := hw.pick [1, 2, 3] (by simp); simp only [List.filterMap_cons, List.filterMap_nil, List.getElem?_cons_zero, List.getElem?_cons_succ] at h; rw [mapR_set (pst_stepD l m i k) (pst_other (gd l) (gd m) i k)] at h; exact h⟩⟩
    · refine HL.val ((Val.lss rfl rfl).as (congrArg Value.bool ((lssN k m.length).trans (decide_eq_false hkl)))) (by decide) ?_
      refine HL.nil ?_
      refine HQ.next ?_
      refine HC.seq ?_
      refine HC.no rfl ?_
      refine HC.exit ?_
      refine HQ.thenExit ?_
      refine HQ.thenExit ?_
      refine HQ.blockExit ?_
      refine HQ.blockNormal ?_
      refine HQ.next ?_
      refine HC.region ?_
      refine HL.val ((Val.addI rfl rfl).as (congrArg (Value.int .i64) (wrap1 i (by omega)))) (by decide) ?_
      refine HL.val (Val.move rfl) (by decide) ?_
      refine HL.nil ?_
      obtain rfl : k = m.length := by omega
      exact ⟨fun ac wc ha hw => ⟨⟨i + 1, hil⟩, by dsimp only; omega, ha.subS ⟨rfl, rfl, rfl, rfl, rfl, rfl, rfl, trivial⟩, by have h := hw.pick [0, 1] (by simp); simp only [List.filterMap_cons, List.filterMap_nil, List.getElem?_cons_zero, List.getElem?_cons_succ] at h; rw [pst_row (gd l) (gd m) (gd_zero m) i] at h; exact h⟩⟩
  · refine HL.val ((Val.lss rfl rfl).as (congrArg Value.bool ((lssN i l.length).trans (decide_eq_false hil)))) (by decide) ?_
    refine HL.nil ?_
    refine HQ.next ?_
    refine HC.seq ?_
    refine HC.no rfl ?_
    refine HC.exit ?_
    refine HQ.thenExit ?_
    refine HQ.thenExit ?_
    refine HQ.blockExit ?_
    refine HQ.next ?_
    refine HC.seq ?_
    refine HC.region ?_
    refine HL.val (Val.move rfl) (by decide) ?_
    refine HL.val (Val.assign rfl) (by decide) ?_
    refine HL.nil ?_
    refine HQ.next ?_
    refine HC.ret ?_
    obtain rfl : i = l.length := by omega
    exact HQ.ret1 rfl rfl (fun w hw => ⟨(b2, 0, #[]), trivial, rfl, hw.sn.pure, hb2, hw.at (i := 0) rfl⟩)

theorem all_len {l : List Nat} {k : Nat} {ad : Option Addr} {b o c : Nat} {w : World} (hk : l.length = k) (hs : SlA fpC 2 w ad b o l) (hp : AllLt l) (hl : k ≤ 100000) :
    Calls Tryd.prog 82 #[.slice ad k c] w fun e w' => ∃ r : Fam, True ∧ e = .returned (.slice (some ⟨r.1, 0, none⟩) k k) ∧ Below w.heap.size w w' ∧ w.heap.size ≤ r.1 ∧ w'.heap[r.1]? = some (.cells (flat (byA 16) l) 30 (0, 0)) := by
  subst hk; exact all_good hs hp hl
theorem eqlF0 {x : Nat} (h : 0 < x) : ((x : Int) == 0) = false := by rw [beq_eq_false_iff_ne]; omega
set_option maxRecDepth 100000 in
theorem ipsqr_good {l : List Nat} {ad : Option Addr} {b o c : Nat} {w : World} (hg : GR w) (hs : SlA (byA 16) 16 w ad b o l) (hp : AllLt l) (h1 : 0 < l.length) (hl : l.length ≤ 10000) : Calls Tryd.prog 60 #[.slice ad l.length c] w fun e w' => ∃ r : Fam, True ∧ e = .returned (.tuple #[.slice (some ⟨r.1, 0, none⟩) (l.length + l.length - 1) (l.length + l.length - 1), .bool true]) ∧ Below w.heap.size w w' ∧ w.heap.size ≤ r.1 ∧ w'.heap[r.1]? = some (.cells (flat (byA 16) (prodL l l)) 30 (0, 0)) := by
  refine calls_H (args := [.slice ad l.length c]) (noD) [] Tryd.func60 rfl (m := 29) rfl rfl (hold_nil _ _) ?_
  refine HC.seq ?_
  refine HC.region ?_
  refine HL.val (Val.assign rfl) (by decide) ?_
  refine HL.val (Val.assign rfl) (by decide) ?_
  refine HL.nil ?_
  refine HQ.next ?_
  refine HC.seq ?_
  refine HC.region ?_
  refine HL.val (Val.move rfl) (by decide) ?_
  refine HL.fam (FamV.call (R := fun r => True) (ob := fun r => .cells (flat fpC l) 81 (0, 0)) (pv := fun r => .tuple #[.slice (some ⟨r.1, 0, none⟩) l.length l.length, .bool true]) en81 (fun w hw => list_good (hg.sn hw.sn rfl) (hs.sn szBy hw.sn rfl) hp (by omega)) rfl) (fun _ h => by cases h) (by decide) ?_
  intro b1 c1 q1 r1 hb1
  dsimp only
  refine HL.val (Val.move rfl) (by decide) ?_
  refine HL.val (Val.extract rfl rfl) (by decide) ?_
  refine HL.val (Val.extract rfl rfl) (by decide) ?_
  refine HL.val (Val.assign rfl) (by decide) ?_
  refine HL.val (Val.assign rfl) (by decide) ?_
  refine HL.nil ?_
  refine HQ.next ?_
  refine HC.seq ?_
  refine HC.seq ?_
  refine HC.region ?_
  refine HL.val (Val.move rfl) (by decide) ?_
  refine HL.val (Val.not rfl) (by decide) ?_
  refine HL.val (Val.move rfl) (by decide) ?_
  refine HL.valg rfl (Val.move rfl) (by decide) ?_
  refine HL.valg rfl (Val.lenS rfl rfl Tryd.underlying47) (by decide) ?_
  refine HL.valg rfl ((Val.eqlI rfl rfl).as (congrArg Value.bool (eqlF0 h1))) (by decide) ?_
  refine HL.val (Val.pickF rfl rfl) (by decide) ?_
  refine HL.nil ?_
  refine HQ.next ?_
  refine HC.no rfl ?_
  refine HC.skip ?_
  refine HQ.next ?_
  refine HC.seq ?_
  refine HC.region ?_
  refine HL.val (Val.move rfl) (by decide) ?_
  refine HL.val (Val.lenS rfl rfl Tryd.underlying47) (by decide) ?_
  refine HL.val ((Val.mulI rfl rfl).as (congrArg (Value.int .i64) (mulN 2 l.length (by omega)))) (by decide) ?_
  refine HL.val ((Val.subI rfl rfl).as (congrArg (Value.int .i64) ((sub1N (k := 2 * l.length) (by omega) (by omega)).trans (congrArg (fun z : Nat => (z : Int)) (show 2 * l.length - 1 = (l.length + l.length - 1) by omega))))) (by decide) ?_
  refine HL.new (New.make (s := 2) (by' := 16) (z := .agg (rawC 0)) (l.length + l.length - 1) rfl rfl Tryd.underlying102 (by kernel_rfl) (by kernel_rfl) (by kernel_rfl) (by omega) (by omega) made_els) (by decide) ?_
  intro b2 hb2
  refine HL.val (Val.assign rfl) (by decide) ?_
  refine HL.nil ?_
  refine HQ.next ?_
  refine HC.seq ?_
  refine HC.region ?_
  refine HL.val (Val.move rfl) (by decide) ?_
  refine HL.val (Val.move rfl) (by decide) ?_
  refine HL.callD en98 rfl (fun w hw => lift_one hw (i := 0) rfl (.inl hb2) (psqr_any (hw.at (i := 0) rfl) (List.length_replicate) rfl h1 (SlA.of_row szE (hw.at (i := 1) rfl)) hp (nd_ne hw (i := 1) (j := 0) rfl rfl (by decide)) (by omega))) (by decide) ?_
  simp only [List.set_cons_zero]
  refine HL.nil ?_
  refine HQ.next ?_
  refine HC.seq ?_
  refine HC.region ?_
  refine HL.val (Val.move rfl) (by decide) ?_
  refine HL.fam (FamV.call (R := fun r => True) (ob := fun r => .cells (flat (byA 16) (prodL l l)) 30 (0, 0)) (pv := fun r => .slice (some ⟨r.1, 0, none⟩) (l.length + l.length - 1) (l.length + l.length - 1)) en82 (fun w hw => all_len (prodL_len l l) (SlA.of_row szE (hw.at (i := 0) rfl)) (prodL_lt l l) (by omega)) rfl) (fun _ h => by cases h) (by decide) ?_
  intro b3 c3 q3 r3 hb3
  dsimp only
  refine HL.val (Val.assign rfl) (by decide) ?_
  refine HL.val (Val.assign rfl) (by decide) ?_
  refine HL.nil ?_
  refine HQ.next ?_
  refine HC.ret ?_
  refine HQ.ret2 rfl rfl rfl (fun w hw => ?_)
  exact ⟨(b3, 0, #[]), trivial, rfl, hw.sn.pure, hb3, hw.at (i := 0) rfl⟩
end Go.Proofs.YtgdfdkpkhjbibaaDoor
