/-
  IsZero, SetOne, P, Neg, and impl's over them (written by genda.py).
-/
import Derived.Test.YteehdjkmjncehaaDoorSc
import Derived.Test.YteehdjkmjncehaaDoorLb
namespace Go.Proofs.YteehdjkmjncehaaDoor
open Go.RowKit

theorem eql41 (a b : Nat) (ha : a < 256 ^ 32) (hb : b < 256 ^ 32) (w : World) : (binOp .eql 41 (.agg (byA 32 a)) (.agg (byA 32 b))).run Tryd.prog w = .ok (.bool (decide (a = b))) w := run_eql_by Tryd.underlying41 Tryd.underlying5 (by kernel_rfl) ha hb w

set_option maxRecDepth 100000 in
theorem isZero_any {bx T x : Nat} {w : World} (hb : w.heap[bx]? = some (.cells (byA 32 x) T (0, 0))) (lx : x < 2 ^ 256) :
    Calls Tryd.prog 31 #[.pointer (some ⟨bx, 0, none⟩)] w fun e w' => e = .returned (.bool (decide (x % p25 = 0))) ∧ Hold (fun k => k == bx) w [(bx, .cells (byA 32 (x % p25)) T (0, 0))] w' := by
  refine calls_H (args := [.pointer (some ⟨bx, 0, none⟩)]) (fun k => k == bx) [(bx, .cells (byA 32 x) T (0, 0))] Tryd.func31 rfl (m := 10) rfl rfl (hold_one hb) ?_
  refine HC.seq ?_
  refine HC.region ?_
  refine HL.val (Val.assign rfl) (by decide) ?_
  refine HL.nil ?_
  refine HQ.next ?_
  refine HC.seq ?_
  refine HC.region ?_
  refine HL.val (Val.move rfl) (by decide) ?_
  refine HL.call (f := 50) en50 rfl (modpH (dst1 0 rfl (ownB bx)) (elh1 0 rfl) lx) (by decide) ?_
  rintro _ ⟨_, rfl⟩
  simp only [List.set_cons_zero]
  refine HL.nil ?_
  refine HQ.next ?_
  refine HC.seq ?_
  refine HC.region ?_
  refine HL.val (Val.move rfl) (by decide) ?_
  refine HL.val (Val.nilCheck rfl) (by decide) ?_
  refine HL.val (Val.load_row rfl (fun w hw => hw.at (i := 0) rfl) Tryd.underlying41 rfl (sz41 _)) (by decide) ?_
  refine HL.val (Val.build rfl bz41) (by decide) ?_
  refine HL.val (Val.eqlA rfl rfl (by kernel_rfl) (eql41 ((x % p25)) 0 (lt_256_32 (lt256 _)) (lt_256_32 (by decide)))) (by decide) ?_
  refine HL.val (Val.assign rfl) (by decide) ?_
  refine HL.nil ?_
  refine HQ.next ?_
  refine HC.ret ?_
  exact HQ.ret1 rfl rfl (fun w hw => ⟨rfl, hw.pick [0] (by simp)⟩)

theorem Put.to {P : Program} {n : Nat} {σ : List (Nat × Value)} {o : Oper} {b : Nat} {x y z : Obj} (h : Put P n σ o b x y) (e : y = z) : Put P n σ o b x z := e ▸ h
theorem bv_zero (j : Nat) : bv 0 j = .int .u8 0 := by unfold bv; simp
theorem bv_one {j : Nat} (h : 0 < j) : bv 1 j = .int .u8 0 := by
  unfold bv
  have : 1 < 256 ^ j := Nat.one_lt_pow (by omega) (by decide)
  rw [Nat.div_eq_of_lt this]; rfl
theorem elA_setone {vs : List Nat} {q : Nat} (hq : q < vs.length) : (elA (vs.set q 0)).setIfInBounds (32 * q) (.int .u8 1) = elA (vs.set q 1) := by
  apply Array.ext_getElem?
  intro k
  rw [Array.getElem?_setIfInBounds]
  by_cases hk : k < 32 * vs.length
  · obtain ⟨i, j, hj, rfl⟩ : ∃ i j, j < 32 ∧ k = 32 * i + j := ⟨k / 32, k % 32, by omega, by omega⟩
    have hi : i < vs.length := by omega
    by_cases e : i = q
    · subst e
      rw [elA_at (vs := vs.set i 1) (q := i) (v := 1) (by simp [hi]) hj, elA_at (vs := vs.set i 0) (q := i) (v := 0) (by simp [hi]) hj]
      by_cases h0 : j = 0
      · subst h0
        rw [if_pos (by omega), if_pos (by rw [elA_size, List.length_set]; omega)]; rfl
      · rw [if_neg (by omega), bv_zero, bv_one (by omega)]
    · rw [if_neg (by omega), elA_at (vs := vs.set q 0) (q := i) (v := vs[i]) (by rw [List.getElem?_set_ne (Ne.symm e)]; simp [hi]) hj, elA_at (vs := vs.set q 1) (q := i) (v := vs[i]) (by rw [List.getElem?_set_ne (Ne.symm e)]; simp [hi]) hj]
  · rw [if_neg (by omega), Array.getElem?_eq_none (by rw [elA_size, List.length_set]; omega), Array.getElem?_eq_none (by rw [elA_size, List.length_set]; omega)]
set_option maxRecDepth 100000 in
theorem setOne_any {b T q : Nat} {vs : List Nat} {w : World} (hb : w.heap[b]? = some (obE vs T)) (hq : q < vs.length) :
    Calls Tryd.prog 32 #[.pointer (some ⟨b, 32 * q, none⟩)] w fun e w' => e = .returned (.tuple #[]) ∧ Hold (fun k => k == b) w [(b, obE (vs.set q 1) T)] w' := by
  refine calls_H (args := [.pointer (some ⟨b, 32 * q, none⟩)]) (fun k => k == b) [(b, obE vs T)] Tryd.func32 rfl (m := 8) rfl rfl (hold_one hb) ?_
  refine HC.seq ?_
  refine HC.region ?_
  refine HL.val (Val.move rfl) (by decide) ?_
  refine HL.val (Val.build rfl bz41) (by decide) ?_
  refine HL.val (Val.nilCheck rfl) (by decide) ?_
  refine HL.put 0 rfl (Put.mid (new := elA (vs.set q 0)) rfl rfl (sz41 _) (leE q _ hq) (one32 _) (elA_set_size _ _ _) (elA_put _ q _ hq)) (ownB b) ?_
  simp only [List.set_cons_zero]
  refine HL.nil ?_
  refine HQ.next ?_
  refine HC.region ?_
  refine HL.val (Val.move rfl) (by decide) ?_
  refine HL.val (Val.nilCheck rfl) (by decide) ?_
  refine HL.val (Val.ixAddrQ (32 * q) (i := 0) (m := 32) (s := 1) (e := 5) rfl rfl Tryd.underlying41 (by kernel_rfl) (by decide) (by omega)) (by decide) ?_
  refine HL.put 0 rfl ((Put.cell rfl rfl (by kernel_rfl) (by rw [elA_size, List.length_set]; omega) rfl).to (congrArg (fun z => Obj.cells z T (0, 0)) (elA_setone hq))) (ownB b) ?_
  simp only [List.set_cons_zero]
  refine HL.nil ?_
  exact HQ.end0 rfl (fun w hw => ⟨rfl, hw⟩)
theorem setOneH {D : Nat → Bool} {w0 : World} {η : List (Nat × Obj)} {b o : Nat} {η' : Nat → List (Nat × Obj)} (hd : Dst D w0 η b o η') :
    ∀ w, Hold D w0 η w → Calls Tryd.prog 32 #[.pointer (some ⟨b, o, none⟩)] w fun e w' => ∃ r, (r < 2 ^ 256 ∧ r = 1) ∧ e = .returned (.tuple #[]) ∧ Hold D w0 (η' r) w' := fun w hw => by
  obtain ⟨i, ob, vs, T, q, h1, rfl, h3, rfl, h5, h6⟩ := hd.out
  refine (setOne_any (hw.at h1) h3).mono fun e w' ⟨he, hh⟩ => ⟨1, ⟨by decide, rfl⟩, he, ?_⟩
  rw [h6]
  exact hw.lift1 h1 h5 hh (hh.at (i := 0) rfl)

set_option maxRecDepth 100000 in
theorem implIsZero (x : Nat) (hx : x < 2 ^ 256) : Pure Tryd.prog 11 #[byV 32 x] (.bool (decide (x % p25 = 0))) := by
  intro w
  refine calls_H (args := [byV 32 x]) noD [] Tryd.func11 rfl (m := 6) rfl rfl (hold_nil _ _) ?_
  refine HC.seq ?_
  refine HC.region ?_
  refine HL.new (New.box rfl) (by decide) ?_
  intro b1 hb1
  refine HL.val (Val.assign rfl) (by decide) ?_
  refine HL.nil ?_
  refine HQ.next ?_
  refine HC.seq ?_
  refine HC.region ?_
  refine HL.val (Val.load_row rfl (fun w hw => hw.at (i := 0) rfl) Tryd.underlying22 rfl (sz22 _)) (by decide) ?_
  refine HL.new (New.alloc al41) (by decide) ?_
  intro b2 hb2
  refine HL.put 0 rfl (Put.row rfl rfl (sz41 _) (eqsz32 _ _) (one32 _)) (.inl hb2) ?_
  simp only [List.set_cons_zero]
  refine HL.nil ?_
  refine HQ.next ?_
  refine HC.seq ?_
  refine HC.region ?_
  refine HL.callD en31 rfl (fun w hw => lift_one hw (i := 0) rfl (.inl hb2) (isZero_any (hw.at (i := 0) rfl) hx)) (by decide) ?_
  simp only [List.set_cons_zero]
  refine HL.val (Val.assign rfl) (by decide) ?_
  refine HL.nil ?_
  refine HQ.next ?_
  refine HC.ret ?_
  exact HQ.ret1 rfl rfl (pure_end rfl)

set_option maxRecDepth 100000 in
theorem implOne : Pure Tryd.prog 14 #[] (byV 32 1) := by
  intro w
  refine calls_H (args := []) noD [] Tryd.func14 rfl (m := 4) rfl rfl (hold_nil _ _) ?_
  refine HC.seq ?_
  refine HC.region ?_
  refine HL.new (New.alloc al22) (by decide) ?_
  intro b1 hb1
  refine HL.nil ?_
  refine HQ.next ?_
  refine HC.seq ?_
  refine HC.region ?_
  refine HL.new (New.alloc al41) (by decide) ?_
  intro b2 hb2
  refine HL.nil ?_
  refine HQ.next ?_
  refine HC.seq ?_
  refine HC.region ?_
  refine HL.call (f := 32) en32 rfl (setOneH (dst1 0 rfl (.inl hb2))) (by decide) ?_
  rintro _ ⟨_, rfl⟩
  simp only [List.set_cons_zero]
  refine HL.nil ?_
  refine HQ.next ?_
  refine HC.seq ?_
  refine HC.region ?_
  refine HL.val (Val.load_row rfl (fun w hw => hw.at (i := 0) rfl) Tryd.underlying41 rfl (sz41 _)) (by decide) ?_
  refine HL.put 1 rfl (Put.row rfl rfl (sz22 _) (eqsz32 _ _) (one32 _)) (.inl hb1) ?_
  simp only [List.set_cons_zero, List.set_cons_succ]
  refine HL.nil ?_
  refine HQ.next ?_
  refine HC.ret ?_
  exact HQ.retc 1 rfl rfl rfl Tryd.underlying22 rfl (sz22 _) (pure_end rfl)

set_option maxRecDepth 100000 in
theorem fpP {w : World} (hp : PG w) : Calls Tryd.prog 33 #[] w fun e w' => e = .returned (byV 32 p25) ∧ Below w.heap.size w w' := by
  refine calls_H (args := []) noD [] Tryd.func33 rfl (m := 2) rfl rfl (hold_nil _ _) ?_
  refine HC.seq ?_
  refine HC.region ?_
  refine HL.new (New.alloc al41) (by decide) ?_
  intro b1 hb1
  refine HL.nil ?_
  refine HQ.next ?_
  refine HC.seq ?_
  refine HC.region ?_
  refine HL.val (Val.load_cells (byA 32 p25) rfl (fun w hw => hp.sn hw.sn rfl) Tryd.underlying41 rfl (sz41 _)) (by decide) ?_
  refine HL.put 0 rfl (Put.row rfl rfl (sz41 _) (eqsz32 _ _) (one32 _)) (.inl hb1) ?_
  simp only [List.set_cons_zero]
  refine HL.nil ?_
  refine HQ.next ?_
  refine HC.ret ?_
  exact HQ.retc 0 rfl rfl rfl Tryd.underlying41 rfl (sz41 _) (pure_end rfl)

set_option maxRecDepth 100000 in
theorem implP {w : World} (hp : PG w) : Calls Tryd.prog 17 #[] w fun e w' => e = .returned (byV 32 p25) ∧ Below w.heap.size w w' := by
  refine calls_H (args := []) noD [] Tryd.func17 rfl (m := 2) rfl rfl (hold_nil _ _) ?_
  refine HC.seq ?_
  refine HC.region ?_
  refine HL.new (New.alloc al22) (by decide) ?_
  intro b1 hb1
  refine HL.nil ?_
  refine HQ.next ?_
  refine HC.seq ?_
  refine HC.region ?_
  refine HL.val (Val.calls en33 (fun w hw => fpP (hp.sn hw.sn rfl)) rfl) (by decide) ?_
  refine HL.put 0 rfl (Put.row rfl rfl (sz22 _) (eqsz32 _ _) (one32 _)) (.inl hb1) ?_
  simp only [List.set_cons_zero]
  refine HL.nil ?_
  refine HQ.next ?_
  refine HC.ret ?_
  exact HQ.retc 0 rfl rfl rfl Tryd.underlying22 rfl (sz22 _) (pure_end rfl)

theorem hold_two' {w : World} {b c : Nat} {ob oc : Obj} {D : Nat → Bool} (h : w.heap[b]? = some ob) (h2 : w.heap[c]? = some oc) (hn : b ≠ c) : Hold D w [(b, ob), (c, oc)] w := ⟨Sn.refl _ _, (fun p hp => by
  rcases List.mem_cons.1 hp with rfl | hp
  · exact h
  · obtain rfl : p = (c, oc) := by simpa using hp
    exact h2), by simp [hn]⟩
theorem nd_ne3 {D : Nat → Bool} {w0 w : World} {η : List (Nat × Obj)} (hw : Hold D w0 η w) {i j b c : Nat} {ob oc : Obj} (hi : η[i]? = some (b, ob)) (hj : η[j]? = some (c, oc)) (hn : i ≠ j) : b ≠ c := fun e => by
  have n := List.pairwise_iff_getElem.1 hw.nd
  obtain ⟨li, gi⟩ := List.getElem?_eq_some_iff.1 hi
  obtain ⟨lj, gj⟩ := List.getElem?_eq_some_iff.1 hj
  rcases Nat.lt_or_gt_of_ne hn with h | h
  · exact n i j (by simpa using li) (by simpa using lj) h (by simp [gi, gj, e])
  · exact n j i (by simpa using lj) (by simpa using li) h (by simp [gi, gj, e])
set_option maxRecDepth 100000 in
theorem fpNeg_any {bz bx Tz Tx z x : Nat} {w : World} (hp : PG w) (h0 : w.heap[bz]? = some (.cells (byA 32 z) Tz (0, 0))) (h1 : w.heap[bx]? = some (.cells (byA 32 x) Tx (0, 0))) (hn : bz ≠ bx) (lx : x < 2 ^ 256) (hg : (fun k => k == bz) 0 = false) :
    Calls Tryd.prog 41 #[.pointer (some ⟨bz, 0, none⟩), .pointer (some ⟨bx, 0, none⟩)] w fun e w' => ∃ r, (r < 2 ^ 256 ∧ (r + x) % p25 = p25 % p25) ∧ e = .returned (.tuple #[]) ∧ Hold (fun k => k == bz) w [(bz, .cells (byA 32 r) Tz (0, 0))] w' := by
  refine calls_H (args := [.pointer (some ⟨bz, 0, none⟩), .pointer (some ⟨bx, 0, none⟩)]) (fun k => k == bz) [(bz, .cells (byA 32 z) Tz (0, 0)), (bx, .cells (byA 32 x) Tx (0, 0))] Tryd.func41 rfl (m := 9) rfl rfl (hold_two' h0 h1 hn) ?_
  refine HC.seq ?_
  refine HC.region ?_
  refine HL.val (Val.load_cells (byA 32 p25) rfl (fun w hw => hp.sn hw.sn hg) Tryd.underlying41 rfl (sz41 _)) (by decide) ?_
  refine HL.new (New.alloc al41) (by decide) ?_
  intro b1 hb1
  refine HL.put 0 rfl (Put.row rfl rfl (sz41 _) (eqsz32 _ _) (one32 _)) (.inl hb1) ?_
  simp only [List.set_cons_zero]
  refine HL.nil ?_
  refine HQ.next ?_
  refine HC.region ?_
  refine HL.val (Val.move rfl) (by decide) ?_
  refine HL.val (Val.move rfl) (by decide) ?_
  refine HL.call (f := 45) en45 rfl (subH (dst1 1 rfl (ownB bz)) (elh1 0 rfl) p25_lt (elh1 2 rfl) lx) (by decide) ?_
  rintro r1 ⟨lr1, hr1⟩
  simp only [List.set_cons_zero, List.set_cons_succ]
  refine HL.nil ?_
  exact HQ.end0 rfl (fun w hw => ⟨r1, ⟨lr1, hr1⟩, rfl, hw.pick [1] (by simp)⟩)

theorem fpNegH (i j : Nat) {D : Nat → Bool} {u0 : World} {η : List (Nat × Obj)} {bz bx Tz Tx z x : Nat} (hp : PG u0) (hi : η[i]? = some (bz, .cells (byA 32 z) Tz (0, 0))) (hj : η[j]? = some (bx, .cells (byA 32 x) Tx (0, 0))) (hD : u0.heap.size ≤ bz) (hd : D 0 = false) (hn : i ≠ j) (lx : x < 2 ^ 256) :
    ∀ w, Hold D u0 η w → Calls Tryd.prog 41 #[.pointer (some ⟨bz, 0, none⟩), .pointer (some ⟨bx, 0, none⟩)] w fun e w' => ∃ r, (r < 2 ^ 256 ∧ (r + x) % p25 = p25 % p25) ∧ e = .returned (.tuple #[]) ∧ Hold D u0 (η.set i (bz, .cells (byA 32 r) Tz (0, 0))) w' := fun _ hw =>
  (fpNeg_any (hp.sn hw.sn hd) (hw.at hi) (hw.at hj) (nd_ne3 hw hi hj hn) lx (by have := hp.lt; simp; omega)).mono fun _ _ ⟨r, hr, he, hh⟩ => ⟨r, hr, he, hw.lift1 hi (.inl hD) hh (hh.at (i := 0) rfl)⟩
theorem neg_val {r x : Nat} (h : (r + x) % p25 = p25 % p25) : r % p25 = subN 0 x := by
  rw [sub_eq h]; unfold subN; rw [Nat.add_mod_left, Nat.zero_add]
theorem red_neg {r x : Nat} (hr : r < 2 ^ 256) (h : (r + x) % p25 = p25 % p25) : Pure Tryd.prog 42 #[byV 32 r] (byV 32 (subN 0 x)) := by
  rw [← neg_val h]; exact reduced46 r hr

set_option maxRecDepth 100000 in
theorem implNeg {x : Nat} {w : World} (hp : PG w) (hx : x < 2 ^ 256) : Calls Tryd.prog 22 #[byV 32 x] w fun e w' => e = .returned (byV 32 (subN 0 x)) ∧ Below w.heap.size w w' := by
  refine calls_H (args := [byV 32 x]) noD [] Tryd.func22 rfl (m := 9) rfl rfl (hold_nil _ _) ?_
  refine HC.seq ?_
  refine HC.region ?_
  refine HL.new (New.box rfl) (by decide) ?_
  intro b1 hb1
  refine HL.new (New.alloc al22) (by decide) ?_
  intro b2 hb2
  refine HL.nil ?_
  refine HQ.next ?_
  refine HC.seq ?_
  refine HC.region ?_
  refine HL.new (New.alloc al41) (by decide) ?_
  intro b3 hb3
  refine HL.nil ?_
  refine HQ.next ?_
  refine HC.seq ?_
  refine HC.region ?_
  refine HL.val (Val.load_row rfl (fun w hw => hw.at (i := 2) rfl) Tryd.underlying22 rfl (sz22 _)) (by decide) ?_
  refine HL.new (New.alloc al41) (by decide) ?_
  intro b4 hb4
  refine HL.put 0 rfl (Put.row rfl rfl (sz41 _) (eqsz32 _ _) (one32 _)) (.inl hb4) ?_
  simp only [List.set_cons_zero]
  refine HL.nil ?_
  refine HQ.next ?_
  refine HC.seq ?_
  refine HC.region ?_
  refine HL.call (f := 41) en41 rfl (fpNegH 1 0 hp rfl rfl hb3 rfl (by decide) hx) (by decide) ?_
  rintro r1 ⟨lr1, hr1⟩
  simp only [List.set_cons_zero, List.set_cons_succ]
  refine HL.nil ?_
  refine HQ.next ?_
  refine HC.seq ?_
  refine HC.region ?_
  refine HL.val (Val.load_row rfl (fun w hw => hw.at (i := 1) rfl) Tryd.underlying41 rfl (sz41 _)) (by decide) ?_
  refine HL.val (Val.call en42 (red_neg lr1 hr1) rfl) (by decide) ?_
  refine HL.put 2 rfl (Put.row rfl rfl (sz22 _) (eqsz32 _ _) (one32 _)) (.inl hb2) ?_
  simp only [List.set_cons_zero, List.set_cons_succ]
  refine HL.nil ?_
  refine HQ.next ?_
  refine HC.ret ?_
  exact HQ.retc 2 rfl rfl rfl Tryd.underlying22 rfl (sz22 _) (pure_end rfl)
end Go.Proofs.YteehdjkmjncehaaDoor
