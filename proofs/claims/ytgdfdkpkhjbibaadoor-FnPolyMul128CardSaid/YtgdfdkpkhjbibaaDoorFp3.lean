/-
  Elements of bytes, and their bytes (written by genfp3.py).
-/
import Derived.Test.YtgdfdkpkhjbibaaDoorFp2
import Derived.Test.YtgdfdkpkhjbibaaDoorPut16
namespace Go.Proofs.YtgdfdkpkhjbibaaDoor
open Go.RowKit
theorem cell_row {w : World} {b T : Nat} {cs : Array Value} {fr : Nat × Nat} (h : w.heap[b]? = some (.cells cs T fr)) : ∀ j v, cs[j]? = some v → w.cell? ⟨b, 0 + j, none⟩ = some v := fun j v hj => by
  rw [Nat.zero_add, cell_of_row w b j cs T fr h]; exact hj
theorem memB (n v : Nat) : ∀ x ∈ byA n v, x.oneCell' = true := fun x hx => byL_one n v x (by simpa using hx)
theorem isInRangeT {b n : Nat} {w : World} (hl : InB w b n) (hn : n < pf) :
    Calls Tryd.prog 125 #[.pointer (some ⟨b, 0, none⟩)] w fun e w' => e = .returned (.tuple #[.agg (rawC n), .bool true]) ∧ Below w.heap.size w w' := by
  have h := isInRange_any hl (Nat.lt_trans hn (by decide))
  rw [decide_eq_true hn] at h; exact h
theorem isInRangeF {b n : Nat} {w : World} (hl : InB w b n) (hb : n < 256 ^ 16) (hn : ¬ n < pf) :
    Calls Tryd.prog 125 #[.pointer (some ⟨b, 0, none⟩)] w fun e w' => e = .returned (.tuple #[.agg (rawC n), .bool false]) ∧ Below w.heap.size w w' := by
  have h := isInRange_any hl hb
  rw [decide_eq_false hn] at h; exact h
theorem limbB {w : World} {b T n : Nat} (h : w.heap[b]? = some (.cells (byA 16 n) T (0, 0))) (hn : n < 256 ^ 16) : InB w b n := ⟨T, by unfold Blk; rw [h, byA_lms hn]⟩
theorem pf_by {n : Nat} (h : n < pf) : n < 256 ^ 16 := Nat.lt_trans h (by decide)
theorem hold_two {w : World} {b c : Nat} {ob oc : Obj} {D : Nat → Bool} (h : w.heap[b]? = some ob) (h2 : w.heap[c]? = some oc) (hn : b ≠ c) : Hold D w [(b, ob), (c, oc)] w := ⟨Sn.refl _ _, (fun p hp => by
  rcases List.mem_cons.1 hp with rfl | hp
  · exact h
  · obtain rfl : p = (c, oc) := by simpa using hp
    exact h2), by simp [hn]⟩
theorem nd_ne {D : Nat → Bool} {w0 w : World} {η : List (Nat × Obj)} (hw : Hold D w0 η w) {i j b c : Nat} {ob oc : Obj} (hi : η[i]? = some (b, ob)) (hj : η[j]? = some (c, oc)) (hn : i ≠ j) : b ≠ c := fun e => by
  have n := List.pairwise_iff_getElem.1 hw.nd
  obtain ⟨li, gi⟩ := List.getElem?_eq_some_iff.1 hi
  obtain ⟨lj, gj⟩ := List.getElem?_eq_some_iff.1 hj
  rcases Nat.lt_or_gt_of_ne hn with h | h
  · exact n i j (by simpa using li) (by simpa using lj) h (by simp [gi, gj, e])
  · exact n j i (by simpa using lj) (by simpa using li) h (by simp [gi, gj, e])

set_option maxRecDepth 100000 in
theorem ofBytesT {bz bs T Ts m n : Nat} {w : World} (h0 : w.heap[bz]? = some (.cells (rawC m) T (0, 0))) (h1 : w.heap[bs]? = some (.cells (byA 16 n) Ts (0, 0))) (hne : bz ≠ bs) (hg : GR w) (hb : 8 ≠ bz) (hn : n < pf) :
    Calls Tryd.prog 105 #[.pointer (some ⟨bz, 0, none⟩), .slice (some ⟨bs, 0, none⟩) 16 16] w fun e w' => e = .returned (.bool true) ∧ Hold (fun k => k == bz) w [(bz, .cells (fpC n) T (0, 0))] w' := by
  refine calls_H (args := [.pointer (some ⟨bz, 0, none⟩), .slice (some ⟨bs, 0, none⟩) 16 16]) (fun k => k == bz) [(bz, .cells (rawC m) T (0, 0)), (bs, .cells (byA 16 n) Ts (0, 0))] Tryd.func105 rfl (m := 24) rfl rfl (hold_two h0 h1 hne) ?_
  refine HC.seq ?_
  refine HC.region ?_
  refine HL.val (Val.assign rfl) (by decide) ?_
  refine HL.nil ?_
  refine HQ.next ?_
  refine HC.seq ?_
  refine HC.region ?_
  refine HL.new (New.alloc al30) (by decide) ?_
  intro b1 hb1
  refine HL.nil ?_
  refine HQ.next ?_
  refine HC.seq ?_
  refine HC.seq ?_
  refine HC.region ?_
  refine HL.val (Val.move rfl) (by decide) ?_
  refine HL.val (Val.lenS rfl rfl Tryd.underlying62) (by decide) ?_
  refine HL.val (Val.neqI rfl rfl) (by decide) ?_
  refine HL.nil ?_
  refine HQ.next ?_
  refine HC.no rfl ?_
  refine HC.skip ?_
  refine HQ.next ?_
  refine HC.seq ?_
  refine HC.region ?_
  refine HL.val (Val.sliceAll (s := 1) rfl Tryd.underlying30 (by kernel_rfl)) (by decide) ?_
  refine HL.val (Val.move rfl) (by decide) ?_
  refine HL.copyAll 0 (byA 16 n) rfl rfl Tryd.underlying62 (by kernel_rfl) rfl (byA_size _ _) (byA_size _ _) (fun w hw => cell_row (hw.at (i := 2) rfl)) (memB _ _) (.inl hb1) (by decide) ?_
  simp only [List.set_cons_zero]
  refine HL.nil ?_
  refine HQ.next ?_
  refine HC.seq ?_
  refine HC.region ?_
  refine HL.val (Val.calls en125 (fun w hw => isInRangeT (limbB (hw.at (i := 0) rfl) (pf_by hn)) hn) rfl) (by decide) ?_
  refine HL.val (Val.move rfl) (by decide) ?_
  refine HL.val (Val.extract rfl rfl) (by decide) ?_
  refine HL.val (Val.extract rfl rfl) (by decide) ?_
  refine HL.new (New.alloc al24) (by decide) ?_
  intro b2 hb2
  refine HL.put 0 rfl (Put.row rfl rfl (by kernel_rfl) (szR _ _) (rawC_one _)) (.inl hb2) ?_
  simp only [List.set_cons_zero]
  refine HL.val (Val.assign rfl) (by decide) ?_
  refine HL.nil ?_
  refine HQ.next ?_
  refine HC.seq ?_
  refine HC.seq ?_
  refine HC.region ?_
  refine HL.val (Val.move rfl) (by decide) ?_
  refine HL.nil ?_
  refine HQ.next ?_
  refine HC.yes rfl ?_
  refine HC.seq ?_
  refine HC.region ?_
  refine HL.val (Val.move rfl) (by decide) ?_
  refine HL.val (Val.load_row rfl (fun w hw => hw.at (i := 0) rfl) Tryd.underlying24 rfl (by kernel_rfl)) (by decide) ?_
  refine HL.val (Val.nilCheck rfl) (by decide) ?_
  refine HL.put 2 rfl (Put.row rfl rfl (by kernel_rfl) (szR _ _) (rawC_one _)) (ownB bz) ?_
  simp only [List.set_cons_zero, List.set_cons_succ]
  refine HL.nil ?_
  refine HQ.next ?_
  refine HC.seq ?_
  refine HC.region ?_
  refine HL.val (Val.move rfl) (by decide) ?_
  refine HL.callD en107 rfl (fun w hw => lift_one hw (i := 2) rfl (ownB bz) (toMont_any (hw.at (i := 2) rfl) (hg.sn hw.sn (beq_false_of_ne hb)) hb hn)) (by decide) ?_
  simp only [List.set_cons_zero, List.set_cons_succ]
  refine HL.nil ?_
  refine HQ.next ?_
  refine HC.seq ?_
  refine HC.region ?_
  refine HL.val (Val.assign rfl) (by decide) ?_
  refine HL.nil ?_
  refine HQ.next ?_
  refine HC.ret ?_
  refine HQ.thenRet ?_
  refine HQ.ret1 rfl rfl (fun w hw => ⟨rfl, ?_⟩)
  exact hw.pick [2] (by simp)

set_option maxRecDepth 100000 in
theorem ofT {n : Nat} {w : World} (hg : GR w) (hn : n < pf) : Calls Tryd.prog 71 #[byV 16 n] w fun e w' => e = .returned (.tuple #[.agg (fpC n), .bool true]) ∧ Below w.heap.size w w' := by
  refine calls_H (args := [byV 16 n]) noD [] Tryd.func71 rfl (m := 10) rfl rfl (hold_nil _ _) ?_
  refine HC.seq ?_
  refine HC.region ?_
  refine HL.new (New.box rfl) (by decide) ?_
  intro b1 hb1
  refine HL.new (New.alloc al81) (by decide) ?_
  intro b2 hb2
  refine HL.val (Val.assign rfl) (by decide) ?_
  refine HL.nil ?_
  refine HQ.next ?_
  refine HC.seq ?_
  refine HC.region ?_
  refine HL.new (New.alloc al81) (by decide) ?_
  intro b3 hb3
  refine HL.nil ?_
  refine HQ.next ?_
  refine HC.seq ?_
  refine HC.region ?_
  refine HL.val (Val.sliceAll (s := 1) rfl Tryd.underlying30 (by kernel_rfl)) (by decide) ?_
  refine HL.callD en105 rfl (fun w hw => lift_one hw (i := 0) rfl (.inl hb3) (ofBytesT (hw.at (i := 0) rfl) (hw.at (i := 2) rfl) (nd_ne hw (i := 0) (j := 2) rfl rfl (by decide)) (hg.sn hw.sn rfl) (Nat.ne_of_lt (Nat.lt_of_lt_of_le hg.lt hb3)) hn)) (by decide) ?_
  simp only [List.set_cons_zero]
  refine HL.val (Val.assign rfl) (by decide) ?_
  refine HL.nil ?_
  refine HQ.next ?_
  refine HC.seq ?_
  refine HC.region ?_
  refine HL.val (Val.load_row rfl (fun w hw => hw.at (i := 0) rfl) Tryd.underlying81 rfl (by kernel_rfl)) (by decide) ?_
  refine HL.val (Val.move rfl) (by decide) ?_
  refine HL.put 1 rfl (Put.row rfl rfl (by kernel_rfl) (szR _ _) (rawC_one _)) (.inl hb2) ?_
  simp only [List.set_cons_zero, List.set_cons_succ]
  refine HL.val (Val.assign rfl) (by decide) ?_
  refine HL.nil ?_
  refine HQ.next ?_
  refine HC.ret ?_
  exact HQ.retct 1 rfl rfl rfl rfl Tryd.underlying81 rfl (by kernel_rfl) (pure_end rfl)

set_option maxRecDepth 100000 in
theorem ofBytesF {bz bs T Ts m n : Nat} {w : World} (h0 : w.heap[bz]? = some (.cells (rawC m) T (0, 0))) (h1 : w.heap[bs]? = some (.cells (byA 16 n) Ts (0, 0))) (hne : bz ≠ bs) (hB : n < 256 ^ 16) (hn : ¬ n < pf) :
    Calls Tryd.prog 105 #[.pointer (some ⟨bz, 0, none⟩), .slice (some ⟨bs, 0, none⟩) 16 16] w fun e w' => e = .returned (.bool false) ∧ Hold (fun k => k == bz) w [(bz, .cells (rawC m) T (0, 0))] w' := by
  refine calls_H (args := [.pointer (some ⟨bz, 0, none⟩), .slice (some ⟨bs, 0, none⟩) 16 16]) (fun k => k == bz) [(bz, .cells (rawC m) T (0, 0)), (bs, .cells (byA 16 n) Ts (0, 0))] Tryd.func105 rfl (m := 24) rfl rfl (hold_two h0 h1 hne) ?_
  refine HC.seq ?_
  refine HC.region ?_
  refine HL.val (Val.assign rfl) (by decide) ?_
  refine HL.nil ?_
  refine HQ.next ?_
  refine HC.seq ?_
  refine HC.region ?_
  refine HL.new (New.alloc al30) (by decide) ?_
  intro b1 hb1
  refine HL.nil ?_
  refine HQ.next ?_
  refine HC.seq ?_
  refine HC.seq ?_
  refine HC.region ?_
  refine HL.val (Val.move rfl) (by decide) ?_
  refine HL.val (Val.lenS rfl rfl Tryd.underlying62) (by decide) ?_
  refine HL.val (Val.neqI rfl rfl) (by decide) ?_
  refine HL.nil ?_
  refine HQ.next ?_
  refine HC.no rfl ?_
  refine HC.skip ?_
  refine HQ.next ?_
  refine HC.seq ?_
  refine HC.region ?_
  refine HL.val (Val.sliceAll (s := 1) rfl Tryd.underlying30 (by kernel_rfl)) (by decide) ?_
  refine HL.val (Val.move rfl) (by decide) ?_
  refine HL.copyAll 0 (byA 16 n) rfl rfl Tryd.underlying62 (by kernel_rfl) rfl (byA_size _ _) (byA_size _ _) (fun w hw => cell_row (hw.at (i := 2) rfl)) (memB _ _) (.inl hb1) (by decide) ?_
  simp only [List.set_cons_zero]
  refine HL.nil ?_
  refine HQ.next ?_
  refine HC.seq ?_
  refine HC.region ?_
  refine HL.val (Val.calls en125 (fun w hw => isInRangeF (limbB (hw.at (i := 0) rfl) hB) hB hn) rfl) (by decide) ?_
  refine HL.val (Val.move rfl) (by decide) ?_
  refine HL.val (Val.extract rfl rfl) (by decide) ?_
  refine HL.val (Val.extract rfl rfl) (by decide) ?_
  refine HL.new (New.alloc al24) (by decide) ?_
  intro b2 hb2
  refine HL.put 0 rfl (Put.row rfl rfl (by kernel_rfl) (szR _ _) (rawC_one _)) (.inl hb2) ?_
  simp only [List.set_cons_zero]
  refine HL.val (Val.assign rfl) (by decide) ?_
  refine HL.nil ?_
  refine HQ.next ?_
  refine HC.seq ?_
  refine HC.seq ?_
  refine HC.region ?_
  refine HL.val (Val.move rfl) (by decide) ?_
  refine HL.nil ?_
  refine HQ.next ?_
  refine HC.no rfl ?_
  refine HC.skip ?_
  refine HQ.next ?_
  refine HC.seq ?_
  refine HC.region ?_
  refine HL.val (Val.assign rfl) (by decide) ?_
  refine HL.nil ?_
  refine HQ.next ?_
  refine HC.ret ?_
  refine HQ.ret1 rfl rfl (fun w hw => ⟨rfl, ?_⟩)
  exact hw.pick [2] (by simp)

set_option maxRecDepth 100000 in
theorem ofF {n : Nat} {w : World} (hB : n < 256 ^ 16) (hn : ¬ n < pf) : Calls Tryd.prog 71 #[byV 16 n] w fun e w' => e = .returned (.tuple #[.agg (rawC 0), .bool false]) ∧ Below w.heap.size w w' := by
  refine calls_H (args := [byV 16 n]) noD [] Tryd.func71 rfl (m := 10) rfl rfl (hold_nil _ _) ?_
  refine HC.seq ?_
  refine HC.region ?_
  refine HL.new (New.box rfl) (by decide) ?_
  intro b1 hb1
  refine HL.new (New.alloc al81) (by decide) ?_
  intro b2 hb2
  refine HL.val (Val.assign rfl) (by decide) ?_
  refine HL.nil ?_
  refine HQ.next ?_
  refine HC.seq ?_
  refine HC.region ?_
  refine HL.new (New.alloc al81) (by decide) ?_
  intro b3 hb3
  refine HL.nil ?_
  refine HQ.next ?_
  refine HC.seq ?_
  refine HC.region ?_
  refine HL.val (Val.sliceAll (s := 1) rfl Tryd.underlying30 (by kernel_rfl)) (by decide) ?_
  refine HL.callD en105 rfl (fun w hw => lift_one hw (i := 0) rfl (.inl hb3) (ofBytesF (hw.at (i := 0) rfl) (hw.at (i := 2) rfl) (nd_ne hw (i := 0) (j := 2) rfl rfl (by decide)) hB hn)) (by decide) ?_
  simp only [List.set_cons_zero]
  refine HL.val (Val.assign rfl) (by decide) ?_
  refine HL.nil ?_
  refine HQ.next ?_
  refine HC.seq ?_
  refine HC.region ?_
  refine HL.val (Val.load_row rfl (fun w hw => hw.at (i := 0) rfl) Tryd.underlying81 rfl (by kernel_rfl)) (by decide) ?_
  refine HL.val (Val.move rfl) (by decide) ?_
  refine HL.put 1 rfl (Put.row rfl rfl (by kernel_rfl) (szR _ _) (rawC_one _)) (.inl hb2) ?_
  simp only [List.set_cons_zero, List.set_cons_succ]
  refine HL.val (Val.assign rfl) (by decide) ?_
  refine HL.nil ?_
  refine HQ.next ?_
  refine HC.ret ?_
  exact HQ.retct 1 rfl rfl rfl rfl Tryd.underlying81 rfl (by kernel_rfl) (pure_end rfl)

def stg (n : Nat) : Nat → List Nat
  | 0 => [0, 0]
  | 1 => [n % 18446744073709551616, 0]
  | _ => lms n

theorem lift_put {D : Nat → Bool} {w0 w : World} {η : List (Nat × Obj)} {i b k v T c o : Nat} {ls : List Nat} (hw : Hold D w0 η w) (hi : η[i]? = some (b, .cells (arr8 ls).toArray T (0, 0))) (hD : w0.heap.size ≤ b ∨ D b = true) (hk : k < ls.length) (hv : v < 18446744073709551616) (ho : o = 8 * k := by rfl) :
    Calls Tryd.prog 124 #[.agg #[], .slice (some ⟨b, o, none⟩) 8 c, .int .u64 (v : Int)] w fun e w' => e = .returned (.tuple #[]) ∧ Hold D w0 (η.set i (b, .cells (arr8 (ls.set k v)).toArray T (0, 0))) w' := by
  subst ho
  refine (put64_any (c := c) (show Blk w b T ls from hw.at hi) hk hv).mono fun _ _ ⟨he, hB, hO⟩ => ⟨he, hw.put hi hD hO.os hO.tape hO.output hO.size hO.block hB⟩
theorem lift_put16 {D : Nat → Bool} {w0 w : World} {η : List (Nat × Obj)} {i b k v T c o : Nat} {ls : List Nat} (hw : Hold D w0 η w) (hi : η[i]? = some (b, .cells (arr8 ls).toArray T (0, 0))) (hD : w0.heap.size ≤ b ∨ D b = true) (hk : k < ls.length) (hv : v < 18446744073709551616) (ho : o = 8 * k := by rfl) :
    Calls Tryd.prog 124 #[.agg #[], .slice (some ⟨b, o, none⟩) 16 c, .int .u64 (v : Int)] w fun e w' => e = .returned (.tuple #[]) ∧ Hold D w0 (η.set i (b, .cells (arr8 (ls.set k v)).toArray T (0, 0))) w' := by
  subst ho
  refine (put16_any (c := c) (show Blk w b T ls from hw.at hi) hk hv).mono fun _ _ ⟨he, hB, hO⟩ => ⟨he, hw.put hi hD hO.os hO.tape hO.output hO.size hO.block hB⟩
set_option maxRecDepth 100000 in
theorem toBytes_any {bz oz n : Nat} {w : World} (hx : FpAt w bz oz n) (hn : n < pf) :
    Calls Tryd.prog 104 #[.pointer (some ⟨bz, oz, none⟩)] w fun e w' => ∃ b, w.heap.size ≤ b ∧ e = .returned (.slice (some ⟨b, 0, none⟩) 16 16) ∧ w'.heap[b]? = some (.cells (byA 16 n) 30 (0, 0)) ∧ Below w.heap.size w w' := by
  refine calls_H (args := [.pointer (some ⟨bz, oz, none⟩)]) noD [] Tryd.func104 rfl (m := 20) rfl rfl (hold_nil _ _) ?_
  refine HC.seq ?_
  refine HC.region ?_
  refine HL.val (Val.assign rfl) (by decide) ?_
  refine HL.nil ?_
  refine HQ.next ?_
  refine HC.seq ?_
  refine HC.region ?_
  refine HL.new (New.alloc al30) (by decide) ?_
  intro b1 hb1
  refine HL.nil ?_
  refine HQ.next ?_
  refine HC.seq ?_
  refine HC.seq ?_
  refine HC.region ?_
  refine HL.val (Val.move rfl) (by decide) ?_
  refine HL.val (Val.calls en108 (fun w hw => fromMont_any (hx.sn hw.sn rfl) hn) rfl) (by decide) ?_
  refine HL.val (Val.move rfl) (by decide) ?_
  refine HL.nil ?_
  refine HQ.next ?_
  refine HC.block ?_
  refine HC.loop (ι := {p : Nat // p ≤ 2}) (fun p => 2 - p.1) (fun p => [(8, .int .i64 (p.1 : Int)), (3, .pointer (some ⟨b1, 0, none⟩)), (7, .agg (rawC n))]) (fun p => [(b1, .cells (arr8 (stg n p.1)).toArray 30 (0, 0))]) ⟨0, Nat.zero_le _⟩ (fun a w ha hw => ⟨ha.subS ⟨rfl, rfl, rfl, trivial⟩, hw.pick [0] (by simp)⟩) ?_
  rintro ⟨k, hk⟩
  dsimp only
  rcases (show k = 0 ∨ k = 1 ∨ k = 2 by omega) with rfl | rfl | rfl
  · refine HC.seq ?_
    refine HC.region ?_
    refine HL.val (Val.lss rfl rfl) (by decide) ?_
    refine HL.nil ?_
    refine HQ.next ?_
    refine HC.seq ?_
    refine HC.yes rfl ?_
    refine HC.skip ?_
    refine HQ.next ?_
    refine HC.seq ?_
    refine HC.block ?_
    refine HC.seq ?_
    refine HC.region ?_
    refine HL.val (Val.move rfl) (by decide) ?_
    refine HL.val ((Val.index1 (i := 0) rfl rfl Tryd.underlying81 Tryd.underlying23 (by kernel_rfl) (by decide) rfl)) (by decide) ?_
    refine HL.val (Val.assign rfl) (by decide) ?_
    refine HL.val (Val.assign rfl) (by decide) ?_
    refine HL.nil ?_
    refine HQ.next ?_
    refine HC.draw0 5 (by kernel_rfl) (by kernel_rfl) ?_
    simp only [List.take, List.drop]
    refine HV.val ((Val.load0 rfl Tryd.underlying129 rfl (by kernel_rfl))) (by decide) ?_
    refine HV.val (Val.move rfl) (by decide) ?_
    refine HV.val ((Val.mulI rfl rfl).as (v := .int .i64 ((0 : Nat) : Int)) rfl) (by decide) ?_
    refine HV.val (Val.sliceFrom (s := 1) (l := 0) 0 rfl rfl Tryd.underlying30 (by kernel_rfl) (by decide) (by omega)) (by decide) ?_
    refine HV.val (Val.move rfl) (by decide) ?_
    refine HV.tail0 ?_
    refine HL.callD en124 rfl (fun w hw => lift_put16 hw (i := 0) (k := 0) (v := (n % 18446744073709551616)) rfl (.inl hb1) (show 0 < 2 from by decide) (Nat.mod_lt _ (by decide))) (by decide) ?_
    simp only [List.set_cons_zero]
    refine HL.nil ?_
    refine HQ.blockNormal ?_
    refine HQ.next ?_
    refine HC.region ?_
    refine HL.val ((Val.addI rfl rfl).as (congrArg (Value.int .i64) (wrap1 0 (by omega)))) (by decide) ?_
    refine HL.val (Val.move rfl) (by decide) ?_
    refine HL.nil ?_
    exact ⟨fun a w ha hw => ⟨⟨0 + 1, by omega⟩, by dsimp only; omega, ha.subS ⟨rfl, rfl, rfl, trivial⟩, by exact hw⟩⟩
  · refine HC.seq ?_
    refine HC.region ?_
    refine HL.val (Val.lss rfl rfl) (by decide) ?_
    refine HL.nil ?_
    refine HQ.next ?_
    refine HC.seq ?_
    refine HC.yes rfl ?_
    refine HC.skip ?_
    refine HQ.next ?_
    refine HC.seq ?_
    refine HC.block ?_
    refine HC.seq ?_
    refine HC.region ?_
    refine HL.val (Val.move rfl) (by decide) ?_
    refine HL.val ((Val.index1 (i := 1) rfl rfl Tryd.underlying81 Tryd.underlying23 (by kernel_rfl) (by decide) rfl)) (by decide) ?_
    refine HL.val (Val.assign rfl) (by decide) ?_
    refine HL.val (Val.assign rfl) (by decide) ?_
    refine HL.nil ?_
    refine HQ.next ?_
    refine HC.draw0 5 (by kernel_rfl) (by kernel_rfl) ?_
    simp only [List.take, List.drop]
    refine HV.val ((Val.load0 rfl Tryd.underlying129 rfl (by kernel_rfl))) (by decide) ?_
    refine HV.val (Val.move rfl) (by decide) ?_
    refine HV.val ((Val.mulI rfl rfl).as (v := .int .i64 ((8 : Nat) : Int)) rfl) (by decide) ?_
    refine HV.val (Val.sliceFrom (s := 1) (l := 8) 8 rfl rfl Tryd.underlying30 (by kernel_rfl) (by decide) (by omega)) (by decide) ?_
    refine HV.val (Val.move rfl) (by decide) ?_
    refine HV.tail0 ?_
    refine HL.callD en124 rfl (fun w hw => lift_put hw (i := 0) (k := 1) (v := (n / 18446744073709551616)) rfl (.inl hb1) (show 1 < 2 from by decide) (hi64 hn)) (by decide) ?_
    simp only [List.set_cons_zero]
    refine HL.nil ?_
    refine HQ.blockNormal ?_
    refine HQ.next ?_
    refine HC.region ?_
    refine HL.val ((Val.addI rfl rfl).as (congrArg (Value.int .i64) (wrap1 1 (by omega)))) (by decide) ?_
    refine HL.val (Val.move rfl) (by decide) ?_
    refine HL.nil ?_
    exact ⟨fun a w ha hw => ⟨⟨1 + 1, by omega⟩, by dsimp only; omega, ha.subS ⟨rfl, rfl, rfl, trivial⟩, by exact hw⟩⟩
  · refine HC.seq ?_
    refine HC.region ?_
    refine HL.val (Val.lss rfl rfl) (by decide) ?_
    refine HL.nil ?_
    refine HQ.next ?_
    refine HC.seq ?_
    refine HC.no rfl ?_
    refine HC.exit ?_
    refine HQ.thenExit ?_
    refine HQ.thenExit ?_
    refine HQ.blockExit ?_
    refine HQ.next ?_
    refine HC.seq ?_
    refine HC.region ?_
    refine HL.val (Val.sliceAll (s := 1) rfl Tryd.underlying30 (by kernel_rfl)) (by decide) ?_
    refine HL.val (Val.assign rfl) (by decide) ?_
    refine HL.nil ?_
    refine HQ.next ?_
    refine HC.ret ?_
    refine HQ.ret1 rfl rfl (fun w hw => ?_)
    exact ⟨b1, hb1, rfl, by have h := hw.at (i := 0) rfl; rw [show stg n 2 = lms n from rfl, ← byA_lms (pf_by hn)] at h; exact h, hw.sn.pure⟩
end Go.Proofs.YtgdfdkpkhjbibaaDoor
