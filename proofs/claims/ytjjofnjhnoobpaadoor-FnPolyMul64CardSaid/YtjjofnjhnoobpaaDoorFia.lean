/-
  The field's generated functions: sum, difference, product, square (written by genfia.py).
-/
import Derived.Test.YtjjofnjhnoobpaaDoorHA
import Derived.Test.YtjjofnjhnoobpaaDoorMont
namespace Go.Proofs.YtjjofnjhnoobpaaDoor
open Go.RowKit
/-- What a pointer shows that may lie in the block that is written, as long as it is not. -/
theorem Hold.same {w0 w : World} {η : List (Nat × Obj)} {bo : Nat} {ob : Obj} (hw : Hold (fun k => k == bo) w0 η w) (h0 : w0.heap[bo]? = some ob) (i : Nat) (hi : η[i]? = some (bo, ob)) {b q : Nat} {v : Value} (hc : w0.cell? ⟨b, q, none⟩ = some v) : w.cell? ⟨b, q, none⟩ = some v := by
  have hb := World.block_lt_of_cell? w0 ⟨b, q, none⟩ hc
  have e : w.heap[b]? = w0.heap[b]? := by
    by_cases h : b = bo
    · subst h; rw [hw.at hi, h0]
    · exact hw.sn.block b hb (by simpa using h)
  simp only [World.cell?] at hc ⊢
  rw [e]; exact hc
theorem hold_one {w : World} {b : Nat} {ob : Obj} (h : w.heap[b]? = some ob) : Hold (fun k => k == b) w [(b, ob)] w := ⟨Sn.refl _ _, (fun p hp => by
  obtain rfl : p = (b, ob) := by simpa using hp
  exact h), by simp⟩
/-- How many numbers of 64 bits an element has. -/
abbrev nl : Nat := 1
/-- A number's cells. -/
def rawC (n : Nat) : Array Value := #[.int .u64 (n : Int)]
/-- A number laid into a row. -/
def putR (cs : Array Value) (o n : Nat) : Array Value := cs.setIfInBounds o (.int .u64 (n : Int))
theorem rawC_size (n : Nat) : (rawC n).size = nl := rfl
theorem putR_size (cs : Array Value) (o n : Nat) : (putR cs o n).size = cs.size := by simp [putR]
theorem rawC_one (n : Nat) : (rawC n).all (·.oneCell') = true := by simp [rawC, Value.oneCell']
/-- At an address there lies a number. -/
def RawAt (w : World) (b o n : Nat) : Prop := ∀ j v, (rawC n)[j]? = some v → w.cell? ⟨b, o + j, none⟩ = some v
theorem RawAt.same {w0 w : World} {η : List (Nat × Obj)} {bo : Nat} {ob : Obj} {b q x : Nat} (h : RawAt w0 b q x) (hw : Hold (fun k => k == bo) w0 η w) (h0 : w0.heap[bo]? = some ob) (i : Nat) (hi : η[i]? = some (bo, ob)) : RawAt w b q x := fun j v hj => hw.same h0 i hi (h j v hj)
theorem RawAt.row {w : World} {b T x : Nat} {fr : Nat × Nat} (h : w.heap[b]? = some (.cells (rawC x) T fr)) : RawAt w b 0 x := fun j v hj => by
  rw [Nat.zero_add, cell_of_row w b j _ T fr h]; exact hj
theorem ownB (b : Nat) {w : World} : w.heap.size ≤ b ∨ (fun k => k == b) b = true := .inr (by simp)

theorem cmov_any (b z c x y : Nat) (T : TypeId) (hc : c ≤ 1) (hx : x < 18446744073709551616) (hy : y < 18446744073709551616) (w : World) (h0 : w.heap[b]? = some (.cells #[.int .u64 (z : Int)] T (0, 0))) :
    Calls Tryd.prog 129 #[.pointer (some ⟨b, 0, none⟩), .int .u64 (c : Int), .int .u64 (x : Int), .int .u64 (y : Int)] w fun e w' => e = .returned (.tuple #[]) ∧ Hold (fun k => k == b) w [(b, .cells #[.int .u64 (selN c x y : Nat)] T (0, 0))] w' := by
  refine calls_H (args := [.pointer (some ⟨b, 0, none⟩), .int .u64 (c : Int), .int .u64 (x : Int), .int .u64 (y : Int)]) (fun k => k == b) [(b, .cells #[.int .u64 (z : Int)] T (0, 0))] Tryd.func129 rfl (m := 19) rfl rfl (hold_one h0) ?_
  refine HC.region ?_
  refine HL.val (Val.move rfl) (by decide) ?_
  refine HL.val (Val.move rfl) (by decide) ?_
  refine HL.val (Val.move rfl) (by decide) ?_
  refine HL.val (Val.negI rfl) (by decide) ?_
  refine HL.val (Val.andNotI rfl rfl) (by decide) ?_
  refine HL.val (Val.move rfl) (by decide) ?_
  refine HL.val (Val.move rfl) (by decide) ?_
  refine HL.val (Val.negI rfl) (by decide) ?_
  refine HL.val (Val.andI rfl rfl) (by decide) ?_
  refine HL.val ((Val.orI rfl rfl).as (congrArg (Value.int .u64) (cmov_sel hc hx hy))) (by decide) ?_
  refine HL.val (Val.nilCheck rfl) (by decide) ?_
  refine HL.put 0 rfl (Put.cell rfl rfl (by kernel_rfl) (show 0 < 1 from by decide) rfl) (ownB b) ?_
  simp only [List.set_cons_zero]
  refine HL.nil ?_
  exact HQ.end0 rfl (fun w hw => ⟨rfl, hw⟩)

theorem cmovI_any {X Y C : Int} (b z c x y : Nat) (T : TypeId) (hC : C = c) (hX : X = x) (hY : Y = y) (hc : c ≤ 1) (hx : x < 18446744073709551616) (hy : y < 18446744073709551616) (w : World) (h0 : w.heap[b]? = some (.cells #[.int .u64 (z : Int)] T (0, 0))) :
    Calls Tryd.prog 129 #[.pointer (some ⟨b, 0, none⟩), .int .u64 C, .int .u64 X, .int .u64 Y] w fun e w' => e = .returned (.tuple #[]) ∧ Hold (fun k => k == b) w [(b, .cells #[.int .u64 (selN c x y : Nat)] T (0, 0))] w' := by
  subst hX hY hC; exact cmov_any b z c x y T hc hx hy w h0

theorem pf_u64 {a : Nat} (h : a < pf) : a < 18446744073709551616 := Nat.lt_trans h (by decide)
theorem and_sel {c : Nat} (hc : c ≤ 1) : bits .and .u64 ((selN c 0 18446744073709551615 : Nat) : Int) 18446744069414584321 = ((selN c 0 18446744069414584321 : Nat) : Int) := by
  rcases (show c = 0 ∨ c = 1 by omega) with rfl | rfl <;> decide +kernel
theorem fia_add {a b s d s2 d2 s3 d3 : Nat} (ha : a < pf) (hb : b < pf) (e1 : AddE a b 0 s d) (e2 : SubE s 18446744069414584321 0 s2 d2) (e3 : SubE d 0 d2 s3 d3) : selN d3 s2 s = (a + b) % pf := by
  have h : (a + b) % pf = if a + b < pf then a + b else a + b - pf := by
    split
    · next h => exact Nat.mod_eq_of_lt h
    · next h => rw [Nat.mod_eq_sub_mod (by omega), Nat.mod_eq_of_lt (by omega)]
  rw [h]
  unfold AddE SubE selN pf at *
  split <;> split <;> omega
theorem fia_sub {a b s d : Nat} (ha : a < pf) (hb : b < pf) (e1 : SubE a b 0 s d) {s2 d2 : Nat} (e2 : AddE s (selN d 0 18446744069414584321) 0 s2 d2) : s2 = subF a b := by
  rw [subF_eq]
  unfold AddE SubE selN pf at *
  have h : ∀ P, a < P → b < P → (a + (P - b)) % P = if a < b then a + (P - b) else a - b := fun P h1 h2 => by
    split
    · exact Nat.mod_eq_of_lt (by omega)
    · rw [Nat.mod_eq_sub_mod (by omega), Nat.mod_eq_of_lt (by omega)]; omega
  rw [h _ ha hb]
  split at e2 <;> split <;> omega
set_option maxRecDepth 100000 in
theorem fia_mul {a b h l q m h1 l1 s d s2 d2 s3 d3 s4 d4 : Nat} (ha : a < pf) (hb : b < pf) (e1 : MulE a b h l) (e2 : MulE l 18446744069414584319 q m) (e3 : MulE m 18446744069414584321 h1 l1) (e4 : AddE l l1 0 s d) (e5 : AddE h h1 d s2 d2) (e6 : SubE s2 18446744069414584321 0 s3 d3) (e7 : SubE d2 0 d3 s4 d4) : selN d4 s3 s2 = mm a b := by
  have hab : a * b ≤ 18446744069414584320 * 18446744069414584320 := Nat.mul_le_mul (by unfold pf at ha; omega) (by unfold pf at hb; omega)
  obtain ⟨a1, a2, a3⟩ := e1
  obtain ⟨b1, b2, b3⟩ := e2
  obtain ⟨c1, c2, c3⟩ := e3
  obtain ⟨f1, f2, f3⟩ := e4
  obtain ⟨g1, g2, g3⟩ := e5
  obtain ⟨i1, i2, i3⟩ := e6
  obtain ⟨j1, j2, j3⟩ := e7
  have hs : s = 0 := by omega
  have hS : (s2 + 18446744073709551616 * d2) * 18446744073709551616 = a * b + m * 18446744069414584321 := by
    have g : s2 + 18446744073709551616 * d2 = h + h1 + d := by omega
    rw [g, Nat.add_mul, Nat.add_mul, a3, c3, Nat.mul_comm h, Nat.mul_comm h1, Nat.mul_comm d]
    omega
  have hlt : s2 + 18446744073709551616 * d2 < 2 * 18446744069414584321 := by omega
  refine mm_of ?_ ?_
  · unfold selN pf; split <;> omega
  · have e : (s2 + 18446744073709551616 * d2) * 18446744073709551616 % pf = a * b % pf := by rw [hS]; exact Nat.add_mul_mod_self_right _ _ _
    rw [← e]
    unfold selN rf pf
    split
    · have : s2 + 18446744073709551616 * d2 = s2 := by omega
      rw [this]
    · have : s2 + 18446744073709551616 * d2 = s3 + 18446744069414584321 := by omega
      rw [this, Nat.add_mul, Nat.add_mul_mod_self_left]

set_option maxRecDepth 100000 in
set_option maxHeartbeats 1000000 in
theorem fiaAdd_any {bo oo T bx ox x bz oy y : Nat} {cs : Array Value} {w : World} (h0 : w.heap[bo]? = some (.cells cs T (0, 0))) (ho : oo < cs.size) (hx : w.cell? ⟨bx, ox, none⟩ = some (.int .u64 (x : Int))) (px : x < pf) (hy : w.cell? ⟨bz, oy, none⟩ = some (.int .u64 (y : Int))) (py : y < pf) :
    Calls Tryd.prog 109 #[.pointer (some ⟨bo, oo, none⟩), .pointer (some ⟨bx, ox, none⟩), .pointer (some ⟨bz, oy, none⟩)] w fun e w' => e = .returned (.tuple #[]) ∧ Hold (fun k => k == bo) w [(bo, .cells (cs.setIfInBounds oo (.int .u64 ((x + y) % pf : Nat))) T (0, 0))] w' := by
  have lx := pf_u64 px
  have ly := pf_u64 py
  refine calls_H (args := [.pointer (some ⟨bo, oo, none⟩), .pointer (some ⟨bx, ox, none⟩), .pointer (some ⟨bz, oy, none⟩)]) (fun k => k == bo) [(bo, .cells cs T (0, 0))] Tryd.func109 rfl (m := 43) rfl rfl (hold_one h0) ?_
  refine HC.seq ?_
  refine HC.region ?_
  refine HL.val (Val.assign rfl) (by decide) ?_
  refine HL.nil ?_
  refine HQ.next ?_
  refine HC.seq ?_
  refine HC.region ?_
  refine HL.val (Val.assign rfl) (by decide) ?_
  refine HL.nil ?_
  refine HQ.next ?_
  refine HC.seq ?_
  refine HC.draw0 13 (by kernel_rfl) (by kernel_rfl) ?_
  simp only [List.take, List.drop]
  refine HV.val (Val.move rfl) (by decide) ?_
  refine HV.val (Val.nilCheck rfl) (by decide) ?_
  refine HV.val (Val.ixAddrQ (ox) (i := 0) (m := 1) (s := 1) (e := 23) rfl rfl Tryd.underlying82 (by kernel_rfl) (by decide) (by omega)) (by decide) ?_
  refine HV.val (Val.load_one rfl (fun w hw => hw.same h0 0 rfl hx) Tryd.underlying23 rfl) (by decide) ?_
  refine HV.val (Val.move rfl) (by decide) ?_
  refine HV.val (Val.nilCheck rfl) (by decide) ?_
  refine HV.val (Val.ixAddrQ (oy) (i := 0) (m := 1) (s := 1) (e := 23) rfl rfl Tryd.underlying82 (by kernel_rfl) (by decide) (by omega)) (by decide) ?_
  refine HV.val (Val.load_one rfl (fun w hw => hw.same h0 0 rfl hy) Tryd.underlying23 rfl) (by decide) ?_
  refine HV.val (Val.callV (addVI x y 0 rfl rfl (by omega) lx ly (by decide)) rfl) (by decide) ?_
  have e1 := addE (x := x) (y := y) (c := 0) lx ly (by decide)
  generalize addS x y 0 = s1 at *
  generalize addD x y 0 = d1 at *
  refine HV.val (Val.move rfl) (by decide) ?_
  refine HV.val (Val.extract rfl rfl) (by decide) ?_
  refine HV.val (Val.extract rfl rfl) (by decide) ?_
  refine HV.val (Val.assign rfl) (by decide) ?_
  refine HV.tail0 ?_
  refine HL.val (Val.assign rfl) (by decide) ?_
  refine HL.nil ?_
  refine HQ.next ?_
  refine HC.seq ?_
  refine HC.region ?_
  refine HL.val (Val.assign rfl) (by decide) ?_
  refine HL.nil ?_
  refine HQ.next ?_
  refine HC.seq ?_
  refine HC.region ?_
  refine HL.val (Val.assign rfl) (by decide) ?_
  refine HL.nil ?_
  refine HQ.next ?_
  refine HC.seq ?_
  refine HC.region ?_
  refine HL.val (Val.move rfl) (by decide) ?_
  refine HL.val (Val.callV (subVI s1 18446744069414584321 0 rfl (by omega) (by omega) e1.lt (by decide) (by decide)) rfl) (by decide) ?_
  have e2 := subE (x := s1) (y := 18446744069414584321) (c := 0) e1.lt (by decide) (by decide)
  generalize subS s1 18446744069414584321 0 = s2 at *
  generalize subD s1 18446744069414584321 0 = d2 at *
  refine HL.val (Val.move rfl) (by decide) ?_
  refine HL.val (Val.extract rfl rfl) (by decide) ?_
  refine HL.val (Val.extract rfl rfl) (by decide) ?_
  refine HL.val (Val.assign rfl) (by decide) ?_
  refine HL.val (Val.assign rfl) (by decide) ?_
  refine HL.nil ?_
  refine HQ.next ?_
  refine HC.seq ?_
  refine HC.region ?_
  refine HL.val (Val.assign rfl) (by decide) ?_
  refine HL.nil ?_
  refine HQ.next ?_
  refine HC.seq ?_
  refine HC.region ?_
  refine HL.val (Val.move rfl) (by decide) ?_
  refine HL.val (Val.move rfl) (by decide) ?_
  refine HL.val (Val.callV (subVI d1 0 d2 rfl (by omega) rfl e1.clt (by decide) e2.c) rfl) (by decide) ?_
  have e3 := subE (x := d1) (y := 0) (c := d2) e1.clt (by decide) e2.c
  generalize subS d1 0 d2 = s3 at *
  generalize subD d1 0 d2 = d3 at *
  refine HL.val (Val.move rfl) (by decide) ?_
  refine HL.val (Val.extract rfl rfl) (by decide) ?_
  refine HL.val (Val.extract rfl rfl) (by decide) ?_
  refine HL.val (Val.assign rfl) (by decide) ?_
  refine HL.nil ?_
  refine HQ.next ?_
  refine HC.seq ?_
  refine HC.region ?_
  refine HL.new (New.alloc (cs := #[.int .u64 ((0 : Nat) : Int)]) (fun _ => rfl)) (by decide) ?_
  intro b1 hb1
  refine HL.nil ?_
  refine HQ.next ?_
  refine HC.seq ?_
  refine HC.region ?_
  refine HL.val (Val.move rfl) (by decide) ?_
  refine HL.val (Val.move rfl) (by decide) ?_
  refine HL.val (Val.move rfl) (by decide) ?_
  refine HL.callD en129 rfl (fun w hw => lift_one hw (i := 0) rfl (.inl hb1) (cmovI_any b1 0 d3 s2 s1 _ rfl rfl rfl e3.c e2.lt e1.lt w (hw.at (i := 0) rfl))) (by decide) ?_
  simp only [List.set_cons_zero]
  refine HL.nil ?_
  refine HQ.next ?_
  refine HC.draw0 4 (by kernel_rfl) (by kernel_rfl) ?_
  simp only [List.take, List.drop]
  refine HV.val (Val.move rfl) (by decide) ?_
  refine HV.val (Val.load_cell rfl (fun w hw => hw.at (i := 0) rfl) rfl Tryd.underlying23 rfl) (by decide) ?_
  refine HV.val (Val.nilCheck rfl) (by decide) ?_
  refine HV.val (Val.ixAddrQ (oo) (i := 0) (m := 1) (s := 1) (e := 23) rfl rfl Tryd.underlying82 (by kernel_rfl) (by decide) (by omega)) (by decide) ?_
  refine HV.tail0 ?_
  refine HL.put 1 rfl (Put.cell rfl rfl (by kernel_rfl) ho rfl) (ownB bo) ?_
  simp only [List.set_cons_zero, List.set_cons_succ]
  refine HL.nil ?_
  refine HQ.end0 rfl (fun w hw => ⟨rfl, ?_⟩)
  have hm := fia_add px py e1 e2 e3
  have h := hw.pick [1] (by simp)
  simp only [List.filterMap_cons, List.filterMap_nil, List.getElem?_cons_zero, List.getElem?_cons_succ] at h
  rw [hm] at h
  exact h

set_option maxRecDepth 100000 in
set_option maxHeartbeats 1000000 in
theorem fiaSub_any {bo oo T bx ox x bz oy y : Nat} {cs : Array Value} {w : World} (h0 : w.heap[bo]? = some (.cells cs T (0, 0))) (ho : oo < cs.size) (hx : w.cell? ⟨bx, ox, none⟩ = some (.int .u64 (x : Int))) (px : x < pf) (hy : w.cell? ⟨bz, oy, none⟩ = some (.int .u64 (y : Int))) (py : y < pf) :
    Calls Tryd.prog 114 #[.pointer (some ⟨bo, oo, none⟩), .pointer (some ⟨bx, ox, none⟩), .pointer (some ⟨bz, oy, none⟩)] w fun e w' => e = .returned (.tuple #[]) ∧ Hold (fun k => k == bo) w [(bo, .cells (cs.setIfInBounds oo (.int .u64 (subF x y : Nat))) T (0, 0))] w' := by
  have lx := pf_u64 px
  have ly := pf_u64 py
  refine calls_H (args := [.pointer (some ⟨bo, oo, none⟩), .pointer (some ⟨bx, ox, none⟩), .pointer (some ⟨bz, oy, none⟩)]) (fun k => k == bo) [(bo, .cells cs T (0, 0))] Tryd.func114 rfl (m := 37) rfl rfl (hold_one h0) ?_
  refine HC.seq ?_
  refine HC.region ?_
  refine HL.val (Val.move rfl) (by decide) ?_
  refine HL.val (Val.nilCheck rfl) (by decide) ?_
  refine HL.val (Val.ixAddrQ (oy) (i := 0) (m := 1) (s := 1) (e := 23) rfl rfl Tryd.underlying82 (by kernel_rfl) (by decide) (by omega)) (by decide) ?_
  refine HL.val (Val.load_one rfl (fun w hw => hw.same h0 0 rfl hy) Tryd.underlying23 rfl) (by decide) ?_
  refine HL.val (Val.assign rfl) (by decide) ?_
  refine HL.nil ?_
  refine HQ.next ?_
  refine HC.seq ?_
  refine HC.region ?_
  refine HL.val (Val.assign rfl) (by decide) ?_
  refine HL.nil ?_
  refine HQ.next ?_
  refine HC.seq ?_
  refine HC.region ?_
  refine HL.val (Val.assign rfl) (by decide) ?_
  refine HL.nil ?_
  refine HQ.next ?_
  refine HC.seq ?_
  refine HC.region ?_
  refine HL.val (Val.move rfl) (by decide) ?_
  refine HL.val (Val.nilCheck rfl) (by decide) ?_
  refine HL.val (Val.ixAddrQ (ox) (i := 0) (m := 1) (s := 1) (e := 23) rfl rfl Tryd.underlying82 (by kernel_rfl) (by decide) (by omega)) (by decide) ?_
  refine HL.val (Val.load_one rfl (fun w hw => hw.same h0 0 rfl hx) Tryd.underlying23 rfl) (by decide) ?_
  refine HL.val (Val.move rfl) (by decide) ?_
  refine HL.val (Val.callV (subVI x y 0 rfl rfl (by omega) lx ly (by decide)) rfl) (by decide) ?_
  have e1 := subE (x := x) (y := y) (c := 0) lx ly (by decide)
  generalize subS x y 0 = s1 at *
  generalize subD x y 0 = d1 at *
  refine HL.val (Val.move rfl) (by decide) ?_
  refine HL.val (Val.extract rfl rfl) (by decide) ?_
  refine HL.val (Val.extract rfl rfl) (by decide) ?_
  refine HL.val (Val.assign rfl) (by decide) ?_
  refine HL.val (Val.assign rfl) (by decide) ?_
  refine HL.nil ?_
  refine HQ.next ?_
  refine HC.seq ?_
  refine HC.region ?_
  refine HL.new (New.alloc (cs := #[.int .u64 ((0 : Nat) : Int)]) (fun _ => rfl)) (by decide) ?_
  intro b1 hb1
  refine HL.nil ?_
  refine HQ.next ?_
  refine HC.seq ?_
  refine HC.region ?_
  refine HL.val (Val.move rfl) (by decide) ?_
  refine HL.callD en129 rfl (fun w hw => lift_one hw (i := 0) rfl (.inl hb1) (cmovI_any b1 0 d1 0 18446744073709551615 _ rfl (by omega) (by omega) e1.c (by decide) (by decide) w (hw.at (i := 0) rfl))) (by decide) ?_
  simp only [List.set_cons_zero]
  refine HL.nil ?_
  refine HQ.next ?_
  refine HC.seq ?_
  refine HC.region ?_
  refine HL.val (Val.assign rfl) (by decide) ?_
  refine HL.nil ?_
  refine HQ.next ?_
  refine HC.seq ?_
  refine HC.region ?_
  refine HL.val (Val.move rfl) (by decide) ?_
  refine HL.val (Val.load_cell rfl (fun w hw => hw.at (i := 0) rfl) rfl Tryd.underlying23 rfl) (by decide) ?_
  refine HL.val ((Val.andI rfl rfl).as (congrArg (Value.int .u64) (and_sel e1.c))) (by decide) ?_
  refine HL.val (Val.callV (addVI s1 ((selN d1 0 18446744069414584321)) 0 rfl rfl (by omega) e1.lt (selN_lt (by decide) (by decide)) (by decide)) rfl) (by decide) ?_
  have e3 := addE (x := s1) (y := ((selN d1 0 18446744069414584321))) (c := 0) e1.lt (selN_lt (by decide) (by decide)) (by decide)
  generalize addS s1 ((selN d1 0 18446744069414584321)) 0 = s3 at *
  generalize addD s1 ((selN d1 0 18446744069414584321)) 0 = d3 at *
  refine HL.val (Val.move rfl) (by decide) ?_
  refine HL.val (Val.extract rfl rfl) (by decide) ?_
  refine HL.val (Val.extract rfl rfl) (by decide) ?_
  refine HL.val (Val.assign rfl) (by decide) ?_
  refine HL.nil ?_
  refine HQ.next ?_
  refine HC.region ?_
  refine HL.val (Val.move rfl) (by decide) ?_
  refine HL.val (Val.move rfl) (by decide) ?_
  refine HL.val (Val.nilCheck rfl) (by decide) ?_
  refine HL.val (Val.ixAddrQ (oo) (i := 0) (m := 1) (s := 1) (e := 23) rfl rfl Tryd.underlying82 (by kernel_rfl) (by decide) (by omega)) (by decide) ?_
  refine HL.put 1 rfl (Put.cell rfl rfl (by kernel_rfl) ho rfl) (ownB bo) ?_
  simp only [List.set_cons_zero, List.set_cons_succ]
  refine HL.nil ?_
  refine HQ.end0 rfl (fun w hw => ⟨rfl, ?_⟩)
  have hm := fia_sub px py e1 e3
  have h := hw.pick [1] (by simp)
  simp only [List.filterMap_cons, List.filterMap_nil, List.getElem?_cons_zero, List.getElem?_cons_succ] at h
  rw [hm] at h
  exact h

set_option maxRecDepth 100000 in
set_option maxHeartbeats 1000000 in
theorem fiaMul_any {bo oo T bx ox x bz oy y : Nat} {cs : Array Value} {w : World} (h0 : w.heap[bo]? = some (.cells cs T (0, 0))) (ho : oo < cs.size) (hx : w.cell? ⟨bx, ox, none⟩ = some (.int .u64 (x : Int))) (px : x < pf) (hy : w.cell? ⟨bz, oy, none⟩ = some (.int .u64 (y : Int))) (py : y < pf) :
    Calls Tryd.prog 110 #[.pointer (some ⟨bo, oo, none⟩), .pointer (some ⟨bx, ox, none⟩), .pointer (some ⟨bz, oy, none⟩)] w fun e w' => e = .returned (.tuple #[]) ∧ Hold (fun k => k == bo) w [(bo, .cells (cs.setIfInBounds oo (.int .u64 (mm x y : Nat))) T (0, 0))] w' := by
  have lx := pf_u64 px
  have ly := pf_u64 py
  refine calls_H (args := [.pointer (some ⟨bo, oo, none⟩), .pointer (some ⟨bx, ox, none⟩), .pointer (some ⟨bz, oy, none⟩)]) (fun k => k == bo) [(bo, .cells cs T (0, 0))] Tryd.func110 rfl (m := 74) rfl rfl (hold_one h0) ?_
  refine HC.seq ?_
  refine HC.region ?_
  refine HL.val (Val.move rfl) (by decide) ?_
  refine HL.val (Val.nilCheck rfl) (by decide) ?_
  refine HL.val (Val.ixAddrQ (ox) (i := 0) (m := 1) (s := 1) (e := 23) rfl rfl Tryd.underlying82 (by kernel_rfl) (by decide) (by omega)) (by decide) ?_
  refine HL.val (Val.load_one rfl (fun w hw => hw.same h0 0 rfl hx) Tryd.underlying23 rfl) (by decide) ?_
  refine HL.val (Val.assign rfl) (by decide) ?_
  refine HL.nil ?_
  refine HQ.next ?_
  refine HC.seq ?_
  refine HC.region ?_
  refine HL.val (Val.assign rfl) (by decide) ?_
  refine HL.nil ?_
  refine HQ.next ?_
  refine HC.seq ?_
  refine HC.region ?_
  refine HL.val (Val.assign rfl) (by decide) ?_
  refine HL.nil ?_
  refine HQ.next ?_
  refine HC.seq ?_
  refine HC.region ?_
  refine HL.val (Val.move rfl) (by decide) ?_
  refine HL.val (Val.move rfl) (by decide) ?_
  refine HL.val (Val.nilCheck rfl) (by decide) ?_
  refine HL.val (Val.ixAddrQ (oy) (i := 0) (m := 1) (s := 1) (e := 23) rfl rfl Tryd.underlying82 (by kernel_rfl) (by decide) (by omega)) (by decide) ?_
  refine HL.val (Val.load_one rfl (fun w hw => hw.same h0 0 rfl hy) Tryd.underlying23 rfl) (by decide) ?_
  refine HL.val (Val.call en130 (mulVI x y rfl rfl lx ly) rfl) (by decide) ?_
  have e1 := mulE (x := x) (y := y) lx ly
  generalize x * y / 18446744073709551616 = h1 at *
  generalize x * y % 18446744073709551616 = l1 at *
  refine HL.val (Val.move rfl) (by decide) ?_
  refine HL.val (Val.extract rfl rfl) (by decide) ?_
  refine HL.val (Val.extract rfl rfl) (by decide) ?_
  refine HL.val (Val.assign rfl) (by decide) ?_
  refine HL.val (Val.assign rfl) (by decide) ?_
  refine HL.nil ?_
  refine HQ.next ?_
  refine HC.seq ?_
  refine HC.region ?_
  refine HL.val (Val.assign rfl) (by decide) ?_
  refine HL.nil ?_
  refine HQ.next ?_
  refine HC.seq ?_
  refine HC.region ?_
  refine HL.val (Val.move rfl) (by decide) ?_
  refine HL.val (Val.call en130 (mulVI l1 18446744069414584319 rfl (by omega) e1.lo (by decide)) rfl) (by decide) ?_
  have e2 := mulE (x := l1) (y := 18446744069414584319) e1.lo (by decide)
  generalize l1 * 18446744069414584319 / 18446744073709551616 = h2 at *
  generalize l1 * 18446744069414584319 % 18446744073709551616 = l2 at *
  refine HL.val (Val.move rfl) (by decide) ?_
  refine HL.val (Val.extract rfl rfl) (by decide) ?_
  refine HL.val (Val.extract rfl rfl) (by decide) ?_
  refine HL.val (Val.assign rfl) (by decide) ?_
  refine HL.nil ?_
  refine HQ.next ?_
  refine HC.seq ?_
  refine HC.region ?_
  refine HL.val (Val.assign rfl) (by decide) ?_
  refine HL.nil ?_
  refine HQ.next ?_
  refine HC.seq ?_
  refine HC.region ?_
  refine HL.val (Val.assign rfl) (by decide) ?_
  refine HL.nil ?_
  refine HQ.next ?_
  refine HC.seq ?_
  refine HC.region ?_
  refine HL.val (Val.move rfl) (by decide) ?_
  refine HL.val (Val.call en130 (mulVI l2 18446744069414584321 rfl (by omega) e2.lo (by decide)) rfl) (by decide) ?_
  have e3 := mulE (x := l2) (y := 18446744069414584321) e2.lo (by decide)
  generalize l2 * 18446744069414584321 / 18446744073709551616 = h3 at *
  generalize l2 * 18446744069414584321 % 18446744073709551616 = l3 at *
  refine HL.val (Val.move rfl) (by decide) ?_
  refine HL.val (Val.extract rfl rfl) (by decide) ?_
  refine HL.val (Val.extract rfl rfl) (by decide) ?_
  refine HL.val (Val.assign rfl) (by decide) ?_
  refine HL.val (Val.assign rfl) (by decide) ?_
  refine HL.nil ?_
  refine HQ.next ?_
  refine HC.seq ?_
  refine HC.region ?_
  refine HL.val (Val.assign rfl) (by decide) ?_
  refine HL.nil ?_
  refine HQ.next ?_
  refine HC.seq ?_
  refine HC.region ?_
  refine HL.val (Val.move rfl) (by decide) ?_
  refine HL.val (Val.move rfl) (by decide) ?_
  refine HL.val (Val.callV (addVI l1 l3 0 rfl rfl (by omega) e1.lo e3.lo (by decide)) rfl) (by decide) ?_
  have e4 := addE (x := l1) (y := l3) (c := 0) e1.lo e3.lo (by decide)
  generalize addS l1 l3 0 = s4 at *
  generalize addD l1 l3 0 = d4 at *
  refine HL.val (Val.move rfl) (by decide) ?_
  refine HL.val (Val.extract rfl rfl) (by decide) ?_
  refine HL.val (Val.extract rfl rfl) (by decide) ?_
  refine HL.val (Val.assign rfl) (by decide) ?_
  refine HL.nil ?_
  refine HQ.next ?_
  refine HC.seq ?_
  refine HC.region ?_
  refine HL.val (Val.assign rfl) (by decide) ?_
  refine HL.nil ?_
  refine HQ.next ?_
  refine HC.seq ?_
  refine HC.region ?_
  refine HL.val (Val.assign rfl) (by decide) ?_
  refine HL.nil ?_
  refine HQ.next ?_
  refine HC.seq ?_
  refine HC.region ?_
  refine HL.val (Val.move rfl) (by decide) ?_
  refine HL.val (Val.move rfl) (by decide) ?_
  refine HL.val (Val.move rfl) (by decide) ?_
  refine HL.val (Val.callV (addVI h1 h3 d4 rfl rfl rfl e1.lt e3.lt e4.c) rfl) (by decide) ?_
  have e5 := addE (x := h1) (y := h3) (c := d4) e1.lt e3.lt e4.c
  generalize addS h1 h3 d4 = s5 at *
  generalize addD h1 h3 d4 = d5 at *
  refine HL.val (Val.move rfl) (by decide) ?_
  refine HL.val (Val.extract rfl rfl) (by decide) ?_
  refine HL.val (Val.extract rfl rfl) (by decide) ?_
  refine HL.val (Val.assign rfl) (by decide) ?_
  refine HL.val (Val.assign rfl) (by decide) ?_
  refine HL.nil ?_
  refine HQ.next ?_
  refine HC.seq ?_
  refine HC.region ?_
  refine HL.val (Val.assign rfl) (by decide) ?_
  refine HL.nil ?_
  refine HQ.next ?_
  refine HC.seq ?_
  refine HC.region ?_
  refine HL.val (Val.assign rfl) (by decide) ?_
  refine HL.nil ?_
  refine HQ.next ?_
  refine HC.seq ?_
  refine HC.region ?_
  refine HL.val (Val.move rfl) (by decide) ?_
  refine HL.val (Val.callV (subVI s5 18446744069414584321 0 rfl (by omega) (by omega) e5.lt (by decide) (by decide)) rfl) (by decide) ?_
  have e6 := subE (x := s5) (y := 18446744069414584321) (c := 0) e5.lt (by decide) (by decide)
  generalize subS s5 18446744069414584321 0 = s6 at *
  generalize subD s5 18446744069414584321 0 = d6 at *
  refine HL.val (Val.move rfl) (by decide) ?_
  refine HL.val (Val.extract rfl rfl) (by decide) ?_
  refine HL.val (Val.extract rfl rfl) (by decide) ?_
  refine HL.val (Val.assign rfl) (by decide) ?_
  refine HL.val (Val.assign rfl) (by decide) ?_
  refine HL.nil ?_
  refine HQ.next ?_
  refine HC.seq ?_
  refine HC.region ?_
  refine HL.val (Val.assign rfl) (by decide) ?_
  refine HL.nil ?_
  refine HQ.next ?_
  refine HC.seq ?_
  refine HC.region ?_
  refine HL.val (Val.move rfl) (by decide) ?_
  refine HL.val (Val.move rfl) (by decide) ?_
  refine HL.val (Val.callV (subVI d5 0 d6 rfl (by omega) rfl e5.clt (by decide) e6.c) rfl) (by decide) ?_
  have e7 := subE (x := d5) (y := 0) (c := d6) e5.clt (by decide) e6.c
  generalize subS d5 0 d6 = s7 at *
  generalize subD d5 0 d6 = d7 at *
  refine HL.val (Val.move rfl) (by decide) ?_
  refine HL.val (Val.extract rfl rfl) (by decide) ?_
  refine HL.val (Val.extract rfl rfl) (by decide) ?_
  refine HL.val (Val.assign rfl) (by decide) ?_
  refine HL.nil ?_
  refine HQ.next ?_
  refine HC.seq ?_
  refine HC.region ?_
  refine HL.new (New.alloc (cs := #[.int .u64 ((0 : Nat) : Int)]) (fun _ => rfl)) (by decide) ?_
  intro b1 hb1
  refine HL.nil ?_
  refine HQ.next ?_
  refine HC.seq ?_
  refine HC.region ?_
  refine HL.val (Val.move rfl) (by decide) ?_
  refine HL.val (Val.move rfl) (by decide) ?_
  refine HL.val (Val.move rfl) (by decide) ?_
  refine HL.callD en129 rfl (fun w hw => lift_one hw (i := 0) rfl (.inl hb1) (cmovI_any b1 0 d7 s6 s5 _ rfl rfl rfl e7.c e6.lt e5.lt w (hw.at (i := 0) rfl))) (by decide) ?_
  simp only [List.set_cons_zero]
  refine HL.nil ?_
  refine HQ.next ?_
  refine HC.draw0 4 (by kernel_rfl) (by kernel_rfl) ?_
  simp only [List.take, List.drop]
  refine HV.val (Val.move rfl) (by decide) ?_
  refine HV.val (Val.load_cell rfl (fun w hw => hw.at (i := 0) rfl) rfl Tryd.underlying23 rfl) (by decide) ?_
  refine HV.val (Val.nilCheck rfl) (by decide) ?_
  refine HV.val (Val.ixAddrQ (oo) (i := 0) (m := 1) (s := 1) (e := 23) rfl rfl Tryd.underlying82 (by kernel_rfl) (by decide) (by omega)) (by decide) ?_
  refine HV.tail0 ?_
  refine HL.put 1 rfl (Put.cell rfl rfl (by kernel_rfl) ho rfl) (ownB bo) ?_
  simp only [List.set_cons_zero, List.set_cons_succ]
  refine HL.nil ?_
  refine HQ.end0 rfl (fun w hw => ⟨rfl, ?_⟩)
  have hm := fia_mul px py e1 e2 e3 e4 e5 e6 e7
  have h := hw.pick [1] (by simp)
  simp only [List.filterMap_cons, List.filterMap_nil, List.getElem?_cons_zero, List.getElem?_cons_succ] at h
  rw [hm] at h
  exact h

set_option maxRecDepth 100000 in
set_option maxHeartbeats 1000000 in
theorem fiaSqr_any {bo oo T bx ox x : Nat} {cs : Array Value} {w : World} (h0 : w.heap[bo]? = some (.cells cs T (0, 0))) (ho : oo < cs.size) (hx : w.cell? ⟨bx, ox, none⟩ = some (.int .u64 (x : Int))) (px : x < pf) :
    Calls Tryd.prog 111 #[.pointer (some ⟨bo, oo, none⟩), .pointer (some ⟨bx, ox, none⟩)] w fun e w' => e = .returned (.tuple #[]) ∧ Hold (fun k => k == bo) w [(bo, .cells (cs.setIfInBounds oo (.int .u64 (mm x x : Nat))) T (0, 0))] w' := by
  have lx := pf_u64 px
  refine calls_H (args := [.pointer (some ⟨bo, oo, none⟩), .pointer (some ⟨bx, ox, none⟩)]) (fun k => k == bo) [(bo, .cells cs T (0, 0))] Tryd.func111 rfl (m := 72) rfl rfl (hold_one h0) ?_
  refine HC.seq ?_
  refine HC.region ?_
  refine HL.val (Val.move rfl) (by decide) ?_
  refine HL.val (Val.nilCheck rfl) (by decide) ?_
  refine HL.val (Val.ixAddrQ (ox) (i := 0) (m := 1) (s := 1) (e := 23) rfl rfl Tryd.underlying82 (by kernel_rfl) (by decide) (by omega)) (by decide) ?_
  refine HL.val (Val.load_one rfl (fun w hw => hw.same h0 0 rfl hx) Tryd.underlying23 rfl) (by decide) ?_
  refine HL.val (Val.assign rfl) (by decide) ?_
  refine HL.nil ?_
  refine HQ.next ?_
  refine HC.seq ?_
  refine HC.region ?_
  refine HL.val (Val.assign rfl) (by decide) ?_
  refine HL.nil ?_
  refine HQ.next ?_
  refine HC.seq ?_
  refine HC.region ?_
  refine HL.val (Val.assign rfl) (by decide) ?_
  refine HL.nil ?_
  refine HQ.next ?_
  refine HC.seq ?_
  refine HC.region ?_
  refine HL.val (Val.move rfl) (by decide) ?_
  refine HL.val (Val.move rfl) (by decide) ?_
  refine HL.val (Val.nilCheck rfl) (by decide) ?_
  refine HL.val (Val.ixAddrQ (ox) (i := 0) (m := 1) (s := 1) (e := 23) rfl rfl Tryd.underlying82 (by kernel_rfl) (by decide) (by omega)) (by decide) ?_
  refine HL.val (Val.load_one rfl (fun w hw => hw.same h0 0 rfl hx) Tryd.underlying23 rfl) (by decide) ?_
  refine HL.val (Val.call en130 (mulVI x x rfl rfl lx lx) rfl) (by decide) ?_
  have e1 := mulE (x := x) (y := x) lx lx
  generalize x * x / 18446744073709551616 = h1 at *
  generalize x * x % 18446744073709551616 = l1 at *
  refine HL.val (Val.move rfl) (by decide) ?_
  refine HL.val (Val.extract rfl rfl) (by decide) ?_
  refine HL.val (Val.extract rfl rfl) (by decide) ?_
  refine HL.val (Val.assign rfl) (by decide) ?_
  refine HL.val (Val.assign rfl) (by decide) ?_
  refine HL.nil ?_
  refine HQ.next ?_
  refine HC.seq ?_
  refine HC.region ?_
  refine HL.val (Val.assign rfl) (by decide) ?_
  refine HL.nil ?_
  refine HQ.next ?_
  refine HC.seq ?_
  refine HC.region ?_
  refine HL.val (Val.move rfl) (by decide) ?_
  refine HL.val (Val.call en130 (mulVI l1 18446744069414584319 rfl (by omega) e1.lo (by decide)) rfl) (by decide) ?_
  have e2 := mulE (x := l1) (y := 18446744069414584319) e1.lo (by decide)
  generalize l1 * 18446744069414584319 / 18446744073709551616 = h2 at *
  generalize l1 * 18446744069414584319 % 18446744073709551616 = l2 at *
  refine HL.val (Val.move rfl) (by decide) ?_
  refine HL.val (Val.extract rfl rfl) (by decide) ?_
  refine HL.val (Val.extract rfl rfl) (by decide) ?_
  refine HL.val (Val.assign rfl) (by decide) ?_
  refine HL.nil ?_
  refine HQ.next ?_
  refine HC.seq ?_
  refine HC.region ?_
  refine HL.val (Val.assign rfl) (by decide) ?_
  refine HL.nil ?_
  refine HQ.next ?_
  refine HC.seq ?_
  refine HC.region ?_
  refine HL.val (Val.assign rfl) (by decide) ?_
  refine HL.nil ?_
  refine HQ.next ?_
  refine HC.seq ?_
  refine HC.region ?_
  refine HL.val (Val.move rfl) (by decide) ?_
  refine HL.val (Val.call en130 (mulVI l2 18446744069414584321 rfl (by omega) e2.lo (by decide)) rfl) (by decide) ?_
  have e3 := mulE (x := l2) (y := 18446744069414584321) e2.lo (by decide)
  generalize l2 * 18446744069414584321 / 18446744073709551616 = h3 at *
  generalize l2 * 18446744069414584321 % 18446744073709551616 = l3 at *
  refine HL.val (Val.move rfl) (by decide) ?_
  refine HL.val (Val.extract rfl rfl) (by decide) ?_
  refine HL.val (Val.extract rfl rfl) (by decide) ?_
  refine HL.val (Val.assign rfl) (by decide) ?_
  refine HL.val (Val.assign rfl) (by decide) ?_
  refine HL.nil ?_
  refine HQ.next ?_
  refine HC.seq ?_
  refine HC.region ?_
  refine HL.val (Val.assign rfl) (by decide) ?_
  refine HL.nil ?_
  refine HQ.next ?_
  refine HC.seq ?_
  refine HC.region ?_
  refine HL.val (Val.move rfl) (by decide) ?_
  refine HL.val (Val.move rfl) (by decide) ?_
  refine HL.val (Val.callV (addVI l1 l3 0 rfl rfl (by omega) e1.lo e3.lo (by decide)) rfl) (by decide) ?_
  have e4 := addE (x := l1) (y := l3) (c := 0) e1.lo e3.lo (by decide)
  generalize addS l1 l3 0 = s4 at *
  generalize addD l1 l3 0 = d4 at *
  refine HL.val (Val.move rfl) (by decide) ?_
  refine HL.val (Val.extract rfl rfl) (by decide) ?_
  refine HL.val (Val.extract rfl rfl) (by decide) ?_
  refine HL.val (Val.assign rfl) (by decide) ?_
  refine HL.nil ?_
  refine HQ.next ?_
  refine HC.seq ?_
  refine HC.region ?_
  refine HL.val (Val.assign rfl) (by decide) ?_
  refine HL.nil ?_
  refine HQ.next ?_
  refine HC.seq ?_
  refine HC.region ?_
  refine HL.val (Val.assign rfl) (by decide) ?_
  refine HL.nil ?_
  refine HQ.next ?_
  refine HC.seq ?_
  refine HC.region ?_
  refine HL.val (Val.move rfl) (by decide) ?_
  refine HL.val (Val.move rfl) (by decide) ?_
  refine HL.val (Val.move rfl) (by decide) ?_
  refine HL.val (Val.callV (addVI h1 h3 d4 rfl rfl rfl e1.lt e3.lt e4.c) rfl) (by decide) ?_
  have e5 := addE (x := h1) (y := h3) (c := d4) e1.lt e3.lt e4.c
  generalize addS h1 h3 d4 = s5 at *
  generalize addD h1 h3 d4 = d5 at *
  refine HL.val (Val.move rfl) (by decide) ?_
  refine HL.val (Val.extract rfl rfl) (by decide) ?_
  refine HL.val (Val.extract rfl rfl) (by decide) ?_
  refine HL.val (Val.assign rfl) (by decide) ?_
  refine HL.val (Val.assign rfl) (by decide) ?_
  refine HL.nil ?_
  refine HQ.next ?_
  refine HC.seq ?_
  refine HC.region ?_
  refine HL.val (Val.assign rfl) (by decide) ?_
  refine HL.nil ?_
  refine HQ.next ?_
  refine HC.seq ?_
  refine HC.region ?_
  refine HL.val (Val.assign rfl) (by decide) ?_
  refine HL.nil ?_
  refine HQ.next ?_
  refine HC.seq ?_
  refine HC.region ?_
  refine HL.val (Val.move rfl) (by decide) ?_
  refine HL.val (Val.callV (subVI s5 18446744069414584321 0 rfl (by omega) (by omega) e5.lt (by decide) (by decide)) rfl) (by decide) ?_
  have e6 := subE (x := s5) (y := 18446744069414584321) (c := 0) e5.lt (by decide) (by decide)
  generalize subS s5 18446744069414584321 0 = s6 at *
  generalize subD s5 18446744069414584321 0 = d6 at *
  refine HL.val (Val.move rfl) (by decide) ?_
  refine HL.val (Val.extract rfl rfl) (by decide) ?_
  refine HL.val (Val.extract rfl rfl) (by decide) ?_
  refine HL.val (Val.assign rfl) (by decide) ?_
  refine HL.val (Val.assign rfl) (by decide) ?_
  refine HL.nil ?_
  refine HQ.next ?_
  refine HC.seq ?_
  refine HC.region ?_
  refine HL.val (Val.assign rfl) (by decide) ?_
  refine HL.nil ?_
  refine HQ.next ?_
  refine HC.seq ?_
  refine HC.region ?_
  refine HL.val (Val.move rfl) (by decide) ?_
  refine HL.val (Val.move rfl) (by decide) ?_
  refine HL.val (Val.callV (subVI d5 0 d6 rfl (by omega) rfl e5.clt (by decide) e6.c) rfl) (by decide) ?_
  have e7 := subE (x := d5) (y := 0) (c := d6) e5.clt (by decide) e6.c
  generalize subS d5 0 d6 = s7 at *
  generalize subD d5 0 d6 = d7 at *
  refine HL.val (Val.move rfl) (by decide) ?_
  refine HL.val (Val.extract rfl rfl) (by decide) ?_
  refine HL.val (Val.extract rfl rfl) (by decide) ?_
  refine HL.val (Val.assign rfl) (by decide) ?_
  refine HL.nil ?_
  refine HQ.next ?_
  refine HC.seq ?_
  refine HC.region ?_
  refine HL.new (New.alloc (cs := #[.int .u64 ((0 : Nat) : Int)]) (fun _ => rfl)) (by decide) ?_
  intro b1 hb1
  refine HL.nil ?_
  refine HQ.next ?_
  refine HC.seq ?_
  refine HC.region ?_
  refine HL.val (Val.move rfl) (by decide) ?_
  refine HL.val (Val.move rfl) (by decide) ?_
  refine HL.val (Val.move rfl) (by decide) ?_
  refine HL.callD en129 rfl (fun w hw => lift_one hw (i := 0) rfl (.inl hb1) (cmovI_any b1 0 d7 s6 s5 _ rfl rfl rfl e7.c e6.lt e5.lt w (hw.at (i := 0) rfl))) (by decide) ?_
  simp only [List.set_cons_zero]
  refine HL.nil ?_
  refine HQ.next ?_
  refine HC.draw0 4 (by kernel_rfl) (by kernel_rfl) ?_
  simp only [List.take, List.drop]
  refine HV.val (Val.move rfl) (by decide) ?_
  refine HV.val (Val.load_cell rfl (fun w hw => hw.at (i := 0) rfl) rfl Tryd.underlying23 rfl) (by decide) ?_
  refine HV.val (Val.nilCheck rfl) (by decide) ?_
  refine HV.val (Val.ixAddrQ (oo) (i := 0) (m := 1) (s := 1) (e := 23) rfl rfl Tryd.underlying82 (by kernel_rfl) (by decide) (by omega)) (by decide) ?_
  refine HV.tail0 ?_
  refine HL.put 1 rfl (Put.cell rfl rfl (by kernel_rfl) ho rfl) (ownB bo) ?_
  simp only [List.set_cons_zero, List.set_cons_succ]
  refine HL.nil ?_
  refine HQ.end0 rfl (fun w hw => ⟨rfl, ?_⟩)
  have hm := fia_mul px px e1 e2 e3 e4 e5 e6 e7
  have h := hw.pick [1] (by simp)
  simp only [List.filterMap_cons, List.filterMap_nil, List.getElem?_cons_zero, List.getElem?_cons_succ] at h
  rw [hm] at h
  exact h

theorem fiaAddR_any {b o T bx ox x bz oy y : Nat} {cs : Array Value} {w : World} (h0 : w.heap[b]? = some (.cells cs T (0, 0))) (ho : o + nl ≤ cs.size) (hx : RawAt w bx ox x) (px : x < pf) (hy : RawAt w bz oy y) (py : y < pf) :
    Calls Tryd.prog 109 #[.pointer (some ⟨b, o, none⟩), .pointer (some ⟨bx, ox, none⟩), .pointer (some ⟨bz, oy, none⟩)] w fun e w' => e = .returned (.tuple #[]) ∧ Hold (fun k => k == b) w [(b, .cells (putR cs o ((x + y) % pf)) T (0, 0))] w' :=
  fiaAdd_any (oo := o) h0 ho (hx 0 _ rfl) px (hy 0 _ rfl) py

theorem fiaSubR_any {b o T bx ox x bz oy y : Nat} {cs : Array Value} {w : World} (h0 : w.heap[b]? = some (.cells cs T (0, 0))) (ho : o + nl ≤ cs.size) (hx : RawAt w bx ox x) (px : x < pf) (hy : RawAt w bz oy y) (py : y < pf) :
    Calls Tryd.prog 114 #[.pointer (some ⟨b, o, none⟩), .pointer (some ⟨bx, ox, none⟩), .pointer (some ⟨bz, oy, none⟩)] w fun e w' => e = .returned (.tuple #[]) ∧ Hold (fun k => k == b) w [(b, .cells (putR cs o (subF x y)) T (0, 0))] w' :=
  fiaSub_any (oo := o) h0 ho (hx 0 _ rfl) px (hy 0 _ rfl) py

theorem fiaMulR_any {b o T bx ox x bz oy y : Nat} {cs : Array Value} {w : World} (h0 : w.heap[b]? = some (.cells cs T (0, 0))) (ho : o + nl ≤ cs.size) (hx : RawAt w bx ox x) (px : x < pf) (hy : RawAt w bz oy y) (py : y < pf) :
    Calls Tryd.prog 110 #[.pointer (some ⟨b, o, none⟩), .pointer (some ⟨bx, ox, none⟩), .pointer (some ⟨bz, oy, none⟩)] w fun e w' => e = .returned (.tuple #[]) ∧ Hold (fun k => k == b) w [(b, .cells (putR cs o (mm x y)) T (0, 0))] w' :=
  fiaMul_any (oo := o) h0 ho (hx 0 _ rfl) px (hy 0 _ rfl) py

theorem fiaSqrR_any {b o T bx ox x : Nat} {cs : Array Value} {w : World} (h0 : w.heap[b]? = some (.cells cs T (0, 0))) (ho : o + nl ≤ cs.size) (hx : RawAt w bx ox x) (px : x < pf) :
    Calls Tryd.prog 111 #[.pointer (some ⟨b, o, none⟩), .pointer (some ⟨bx, ox, none⟩)] w fun e w' => e = .returned (.tuple #[]) ∧ Hold (fun k => k == b) w [(b, .cells (putR cs o (mm x x)) T (0, 0))] w' :=
  fiaSqr_any (oo := o) h0 ho (hx 0 _ rfl) px
end Go.Proofs.YtjjofnjhnoobpaaDoor
