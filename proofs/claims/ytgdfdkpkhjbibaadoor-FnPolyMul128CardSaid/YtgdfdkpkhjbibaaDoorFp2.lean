/-
  In and out of Montgomery's form; of bytes and to bytes (written by genfp2.py).
-/
import Derived.Test.YtgdfdkpkhjbibaaDoorFp
import Derived.Test.YtgdfdkpkhjbibaaDoorHS
namespace Go.Proofs.YtgdfdkpkhjbibaaDoor
open Go.RowKit
section
variable {P : Program} {n : Nat} {σ : List (Nat × Value)} {η : List (Nat × Obj)} {D : Nat → Bool} {w0 : World}
/-- A block that a callee has made, in its caller's lists. -/
theorem Hold.extend {w w' : World} {b : Nat} {ob : Obj} (hw : Hold D w0 η w) (hb : w.heap.size ≤ b) (hB : Below w.heap.size w w') (h : w'.heap[b]? = some ob) : w0.heap.size ≤ b ∧ Hold D w0 ((b, ob) :: η) w' := by
  refine ⟨Nat.le_trans hw.sn.size hb, hw.sn.on hB, fun p hp => ?_, ?_⟩
  · rcases List.mem_cons.1 hp with rfl | hp
    · exact h
    · exact (hw.on hB).held p hp
  · rw [List.map_cons, List.nodup_cons]
    refine ⟨fun hm => ?_, hw.nd⟩
    obtain ⟨p, hp, e⟩ := List.mem_map.1 hm
    have := hw.lt hp
    rw [e] at this
    omega
/-- Results: a block and a slot. -/
theorem HQ.retct {fn : Func} {p q : Tmp} {t T : TypeId} {b : Nat} {cs : Array Value} {v : Value} {d : TypeDesc} {R : Ending → World → Prop} (i : Nat) (hr : fn.results = #[.cell p t, .tmp q]) (hp : σ.lookup p = some (.pointer (some ⟨b, 0, none⟩))) (hq : σ.lookup q = some v) (hi : η[i]? = some (b, .cells cs T (0, 0)))
    (hu : P.underlying t = some d) (hd : (match d with | .struct _ | .array _ _ => true | _ => false) = true) (hs : (P.info? t).map (·.size) = some cs.size) (h : ∀ w, Hold D w0 η w → R (.returned (.tuple #[.agg cs, v])) w) : HQ (bodyPost P fn R) .ret D w0 n σ η := ⟨fun a w ha hw => by
  refine bodyPost_ret (v := .tuple #[.agg cs, v]) ?_ ha.defers (h w hw)
  have h1 : a.tmps[p]?.getD undef = .pointer (some ⟨b, 0, none⟩) := by simp [ha.held p _ hp]
  have h2 : a.tmps[q]?.getD undef = v := by simp [ha.held q _ hq]
  simp [results, hr, h1, h2, asAddr, run_loadVar_row w b T t cs (0, 0) d (hw.at hi) hu hd hs]⟩
end
theorem szR (a b : Nat) : (rawC a).size = (rawC b).size := rfl
theorem szB (n a b : Nat) : (byA n a).size = (byA n b).size := by rw [byA_size, byA_size]
theorem oneB (n v : Nat) : (byA n v).all (·.oneCell') = true := all_oneCell_toArray (byL_one n v)
/-- The variable that holds the factor's square. -/
def GR (w : World) : Prop := RawAt w 8 0 r2f
theorem GR.lt {w : World} (h : GR w) : 8 < w.heap.size := World.block_lt_of_cell? w ⟨8, 0 + 0, none⟩ (h 0 _ rfl)
theorem GR.sn {D : Nat → Bool} {w0 w : World} (h : GR w0) (hs : Sn D w0 w) (hd : D 8 = false) : GR w := fun j v hj => hs.cell (h j v hj) hd
theorem RawAt.sn {D : Nat → Bool} {w0 w : World} {b o x : Nat} (h : RawAt w0 b o x) (hs : Sn D w0 w) (hd : D b = false) : RawAt w b o x := fun j v hj => hs.cell (h j v hj) hd
theorem RawAt.cells {w : World} {b o x : Nat} (h : RawAt w b o x) : ∀ j, j < (rawC x).size → w.cell? ⟨b, o + j, none⟩ = (rawC x)[j]? := fun j hj => by
  have e : (rawC x)[j]? = some (rawC x)[j] := by simp [hj]
  rw [e]; exact h j _ e
theorem r2f_lt : r2f < pf := by decide +kernel
theorem zero_lt : 0 < pf := by decide
theorem one_lt : 1 < pf := by decide +kernel
set_option maxRecDepth 100000 in
theorem al81 (w : World) : (Instr.alloc 81 true (.tuple #[])).run Tryd.prog w = .ok (.pointer (some ⟨w.heap.size, 0, none⟩)) (w.alloc (.cells (rawC 0) 81 (0, 0))) := rfl
set_option maxRecDepth 100000 in
theorem al30 (w : World) : (Instr.alloc 30 true (.tuple #[])).run Tryd.prog w = .ok (.pointer (some ⟨w.heap.size, 0, none⟩)) (w.alloc (.cells (byA 16 0) 30 (0, 0))) := rfl

set_option maxRecDepth 100000 in
theorem al24 (w : World) : (Instr.alloc 24 true (.tuple #[])).run Tryd.prog w = .ok (.pointer (some ⟨w.heap.size, 0, none⟩)) (w.alloc (.cells (rawC 0) 24 (0, 0))) := rfl

theorem toMont_any {bz T n : Nat} {w : World} (h0 : w.heap[bz]? = some (.cells (rawC n) T (0, 0))) (hg : GR w) (hb : 8 ≠ bz) (hn : n < pf) :
    Calls Tryd.prog 107 #[.pointer (some ⟨bz, 0, none⟩)] w fun e w' => e = .returned (.tuple #[]) ∧ Hold (fun k => k == bz) w [(bz, .cells (fpC n) T (0, 0))] w' := by
  refine calls_H (args := [.pointer (some ⟨bz, 0, none⟩)]) (fun k => k == bz) [(bz, .cells (rawC n) T (0, 0))] Tryd.func107 rfl (m := 7) rfl rfl (hold_one h0) ?_
  refine HC.seq ?_
  refine HC.region ?_
  refine HL.val ((Val.load_cells (rawC r2f) rfl (fun w hw => (hg.sn hw.sn (beq_false_of_ne hb)).cells) Tryd.underlying81 rfl (by kernel_rfl))) (by decide) ?_
  refine HL.new (New.alloc al81) (by decide) ?_
  intro b1 hb1
  refine HL.put 0 rfl (Put.row rfl rfl (by kernel_rfl) (szR _ _) (rawC_one _)) (.inl hb1) ?_
  simp only [List.set_cons_zero]
  refine HL.nil ?_
  refine HQ.next ?_
  refine HC.region ?_
  refine HL.val (Val.move rfl) (by decide) ?_
  refine HL.val (Val.move rfl) (by decide) ?_
  refine HL.callD en110 rfl (fun w hw => lift_one hw (i := 1) rfl (ownB bz) (fiaMulR_any (hw.at (i := 1) rfl) (Nat.le_refl _) (RawAt.row (hw.at (i := 1) rfl)) hn (RawAt.row (hw.at (i := 0) rfl)) r2f_lt)) (by decide) ?_
  simp only [List.set_cons_zero, List.set_cons_succ]
  refine HL.nil ?_
  refine HQ.end0 rfl (fun w hw => ⟨rfl, ?_⟩)
  have h := hw.pick [1] (by simp)
  rw [show fpC n = putR (rawC n) 0 (mm n r2f) by rw [mm_r2]; rfl]
  exact h

theorem built_one : Tryd.prog.built 81 [(0, .int .u64 1)] = some (rawC 1) := by kernel_rfl
theorem built_nil : Tryd.prog.built 81 [] = some (rawC 0) := by kernel_rfl
theorem fromMont_any {bz oz n : Nat} {w : World} (hx : FpAt w bz oz n) (hn : n < pf) :
    Calls Tryd.prog 108 #[.pointer (some ⟨bz, oz, none⟩)] w fun e w' => e = .returned (.agg (rawC n)) ∧ Below w.heap.size w w' := by
  refine calls_H (args := [.pointer (some ⟨bz, oz, none⟩)]) noD [] Tryd.func108 rfl (m := 7) rfl rfl (hold_nil _ _) ?_
  refine HC.seq ?_
  refine HC.region ?_
  refine HL.new (New.alloc al81) (by decide) ?_
  intro b1 hb1
  refine HL.nil ?_
  refine HQ.next ?_
  refine HC.seq ?_
  refine HC.region ?_
  refine HL.val (Val.move rfl) (by decide) ?_
  refine HL.val (Val.build rfl built_one) (by decide) ?_
  refine HL.new (New.box rfl) (by decide) ?_
  intro b2 hb2
  refine HL.callD en110 rfl (fun w hw => lift_one hw (i := 1) rfl (.inl hb1) (fiaMulR_any (hw.at (i := 1) rfl) (Nat.le_refl _) (hx.sn hw.sn rfl) (mont_lt n) (RawAt.row (hw.at (i := 0) rfl)) one_lt)) (by decide) ?_
  simp only [List.set_cons_zero, List.set_cons_succ]
  refine HL.nil ?_
  refine HQ.next ?_
  refine HC.ret ?_
  exact HQ.retc 1 rfl rfl rfl Tryd.underlying81 rfl (by kernel_rfl) (pure_end (by rw [show putR (rawC 0) 0 (mm (mont n) 1) = rawC n by rw [mm_one hn]; rfl]))

/-- The numbers of 64 bits of a number. -/
def lms (n : Nat) : List Nat := [n % 18446744073709551616, n / 18446744073709551616]
theorem byA_lms {n : Nat} (_h : n < 256 ^ 16) : byA 16 n = (arr8 (lms n)).toArray := by
  have h8 : (256 : Nat) ^ 8 = 18446744073709551616 := by decide
  have lo : ∀ j, j < 8 → n / 256 ^ j % 256 = n % 18446744073709551616 / 256 ^ j % 256 := fun j hj => by
    rcases (show j = 0 ∨ j = 1 ∨ j = 2 ∨ j = 3 ∨ j = 4 ∨ j = 5 ∨ j = 6 ∨ j = 7 by omega) with rfl | rfl | rfl | rfl | rfl | rfl | rfl | rfl <;> omega
  have hi : ∀ j, n / 256 ^ (8 + j) % 256 = n / 18446744073709551616 / 256 ^ j % 256 := fun j => by
    rw [Nat.pow_add, h8, Nat.div_div_eq_div_mul]
  unfold byA
  congr 1
  unfold arr8 lms byL
  rw [List.flatMap_cons, List.flatMap_cons, List.flatMap_nil, List.append_nil]
  unfold b8
  rw [show List.range 16 = List.range 8 ++ (List.range 8).map (8 + ·) from rfl, List.map_append, List.map_map]
  congr 1
  · refine List.map_congr_left fun j hj => ?_
    unfold bv
    rw [lo j (List.mem_range.1 hj)]
  · refine List.map_congr_left fun j hj => ?_
    show bv n (8 + j) = _
    unfold bv
    rw [hi j]

set_option maxRecDepth 100000 in
theorem alz24 (w : World) : (Instr.alloc 24 true (.tuple #[])).run Tryd.prog w = .ok (.pointer (some ⟨w.heap.size, 0, none⟩)) (w.alloc (.cells #[.int .u64 ((0 : Nat) : Int), .int .u64 ((0 : Nat) : Int)] 24 (0, 0))) := rfl
section
variable {P : Program} {n : Nat} {σ : List (Nat × Value)} {t T ty : TypeId} {pos : String} {af : Array Edge} {x y : Operand} {b : Nat} {u c d : Value}
theorem Put.two0 (hx : evS σ x = some (.pointer (some ⟨b, 0, none⟩))) (hy : evS σ y = some u) (hi : (P.info? t).map (·.size) = some 1) (h1 : u.oneCell' = true) : Put P n σ ⟨none, .store t x y, ty, pos, af, none⟩ b (.cells #[c, d] T (0, 0)) (.cells #[u, d] T (0, 0)) := Put.cell (q := 0) hx hy hi (show 0 < 2 from by decide) h1
theorem Put.two1 (hx : evS σ x = some (.pointer (some ⟨b, 1, none⟩))) (hy : evS σ y = some u) (hi : (P.info? t).map (·.size) = some 1) (h1 : u.oneCell' = true) : Put P n σ ⟨none, .store t x y, ty, pos, af, none⟩ b (.cells #[c, d] T (0, 0)) (.cells #[c, u] T (0, 0)) := Put.cell (q := 1) hx hy hi (show 1 < 2 from by decide) h1
end
theorem hi64B {n : Nat} (h : n < 256 ^ 16) : n / 18446744073709551616 < 18446744073709551616 := by
  have e : (256 : Nat) ^ 16 = 18446744073709551616 * 18446744073709551616 := by decide
  exact Nat.div_lt_of_lt_mul (by rw [← e]; exact h)
theorem eqlC (x y : Nat) : ((x : Int) == (y : Int)) = decide (x = y) := by
  rw [Bool.eq_iff_iff, beq_iff_eq, decide_eq_true_eq]; omega
/-- A number's bytes lie in a block. -/
def InB (w : World) (b n : Nat) : Prop := ∃ T, Blk w b T (lms n)
theorem InB.lo {w : World} {b n : Nat} (h : InB w b n) : LimbAt w b 0 (n % 18446744073709551616) := by obtain ⟨T, h⟩ := h; exact ⟨T, _, 0, h, rfl, rfl⟩
theorem InB.hi {w : World} {b n : Nat} (h : InB w b n) : LimbAt w b 8 (n / 18446744073709551616) := by obtain ⟨T, h⟩ := h; exact ⟨T, _, 1, h, rfl, rfl⟩
theorem isInRange_any {b n : Nat} {w : World} (hl : InB w b n) (hn : n < 256 ^ 16) :
    Calls Tryd.prog 125 #[.pointer (some ⟨b, 0, none⟩)] w fun e w' => e = .returned (.tuple #[.agg (rawC n), .bool (decide (n < pf))]) ∧ Below w.heap.size w w' := by
  refine calls_H (args := [.pointer (some ⟨b, 0, none⟩)]) noD [] Tryd.func125 rfl (m := 29) rfl rfl (hold_nil _ _) ?_
  refine HC.seq ?_
  refine HC.region ?_
  refine HL.new (New.alloc alz24) (by decide) ?_
  intro b1 hb1
  refine HL.val (Val.assign rfl) (by decide) ?_
  refine HL.nil ?_
  refine HQ.next ?_
  refine HC.seq ?_
  refine HC.draw0 6 (by kernel_rfl) (by kernel_rfl) ?_
  simp only [List.take, List.drop]
  refine HV.val ((Val.load0 rfl Tryd.underlying129 rfl (by kernel_rfl))) (by decide) ?_
  refine HV.val (Val.move rfl) (by decide) ?_
  refine HV.val (Val.nilCheck rfl) (by decide) ?_
  refine HV.val (Val.sliceFrom (s := 1) (l := 8) 8 rfl rfl Tryd.underlying30 (by kernel_rfl) (by decide) (by omega)) (by decide) ?_
  refine HV.val (Val.calls en135 (fun w hw => u64_any ((hl.hi).on hw.sn.pure) (hi64B hn)) rfl) (by decide) ?_
  refine HV.val (Val.ixAddrQ (1) (i := 1) (m := 2) (s := 1) (e := 23) rfl rfl Tryd.underlying24 (by kernel_rfl) (by decide) (by omega)) (by decide) ?_
  refine HV.tail0 ?_
  refine HL.put 0 rfl (Put.two1 rfl rfl (by kernel_rfl) rfl) (.inl hb1) ?_
  simp only [List.set_cons_zero]
  refine HL.nil ?_
  refine HQ.next ?_
  refine HC.seq ?_
  refine HC.draw0 6 (by kernel_rfl) (by kernel_rfl) ?_
  simp only [List.take, List.drop]
  refine HV.val ((Val.load0 rfl Tryd.underlying129 rfl (by kernel_rfl))) (by decide) ?_
  refine HV.val (Val.move rfl) (by decide) ?_
  refine HV.val (Val.nilCheck rfl) (by decide) ?_
  refine HV.val (Val.sliceTo (s := 1) (h := 8) rfl rfl Tryd.underlying30 (by kernel_rfl) (by decide)) (by decide) ?_
  refine HV.val (Val.calls en135 (fun w hw => u64_any ((hl.lo).on hw.sn.pure) (Nat.mod_lt _ (by decide))) rfl) (by decide) ?_
  refine HV.val (Val.ixAddrQ (0) (i := 0) (m := 2) (s := 1) (e := 23) rfl rfl Tryd.underlying24 (by kernel_rfl) (by decide) (by omega)) (by decide) ?_
  refine HV.tail0 ?_
  refine HL.put 0 rfl (Put.two0 rfl rfl (by kernel_rfl) rfl) (.inl hb1) ?_
  simp only [List.set_cons_zero]
  refine HL.nil ?_
  refine HQ.next ?_
  refine HC.seq ?_
  refine HC.region ?_
  refine HL.val (Val.ixAddrQ (1) (i := 1) (m := 2) (s := 1) (e := 23) rfl rfl Tryd.underlying24 (by kernel_rfl) (by decide) (by omega)) (by decide) ?_
  refine HL.val (Val.load_cell rfl (fun w hw => hw.at (i := 0) rfl) rfl Tryd.underlying23 rfl) (by decide) ?_
  by_cases h1 : n / 18446744073709551616 < 18446744073709551588
  · refine HL.val (((Val.lss rfl rfl).as (congrArg Value.bool (lssN (n / 18446744073709551616) 18446744073709551588))).as (congrArg Value.bool (decide_eq_true h1))) (by decide) ?_
    refine HL.val (Val.move rfl) (by decide) ?_
    refine HL.skip rfl (by decide) ?_
    refine HL.skip rfl (by decide) ?_
    refine HL.skip rfl (by decide) ?_
    refine HL.skip rfl (by decide) ?_
    refine HL.skip rfl (by decide) ?_
    refine HL.skip rfl (by decide) ?_
    refine HL.skip rfl (by decide) ?_
    refine HL.skip rfl (by decide) ?_
    refine HL.val (Val.pickT rfl rfl) (by decide) ?_
    refine HL.val (Val.assign rfl) (by decide) ?_
    refine HL.nil ?_
    refine HQ.next ?_
    refine HC.ret ?_
    rw [show decide (n < pf) = true from decide_eq_true (by unfold pf; omega)]
    exact HQ.retct 0 rfl rfl rfl rfl Tryd.underlying24 rfl (by kernel_rfl) (pure_end rfl)
  · refine HL.val (((Val.lss rfl rfl).as (congrArg Value.bool (lssN (n / 18446744073709551616) 18446744073709551588))).as (congrArg Value.bool (decide_eq_false h1))) (by decide) ?_
    refine HL.val (Val.move rfl) (by decide) ?_
    refine HL.valg rfl (Val.ixAddrQ (1) (i := 1) (m := 2) (s := 1) (e := 23) rfl rfl Tryd.underlying24 (by kernel_rfl) (by decide) (by omega)) (by decide) ?_
    refine HL.valg rfl (Val.load_cell rfl (fun w hw => hw.at (i := 0) rfl) rfl Tryd.underlying23 rfl) (by decide) ?_
    by_cases h2 : n / 18446744073709551616 = 18446744073709551588
    · refine HL.valg rfl (((Val.eqlI rfl rfl).as (congrArg Value.bool (eqlC (n / 18446744073709551616) 18446744073709551588))).as (congrArg Value.bool (decide_eq_true h2))) (by decide) ?_
      refine HL.valg rfl (Val.move rfl) (by decide) ?_
      refine HL.valg rfl (Val.ixAddrQ (0) (i := 0) (m := 2) (s := 1) (e := 23) rfl rfl Tryd.underlying24 (by kernel_rfl) (by decide) (by omega)) (by decide) ?_
      refine HL.valg rfl (Val.load_cell rfl (fun w hw => hw.at (i := 0) rfl) rfl Tryd.underlying23 rfl) (by decide) ?_
      by_cases h3 : n % 18446744073709551616 < 1
      · refine HL.valg rfl (((Val.lss rfl rfl).as (congrArg Value.bool (lssN (n % 18446744073709551616) 1))).as (congrArg Value.bool (decide_eq_true h3))) (by decide) ?_
        refine HL.valg rfl (Val.pickT rfl rfl) (by decide) ?_
        refine HL.val (Val.pickF rfl rfl) (by decide) ?_
        refine HL.val (Val.assign rfl) (by decide) ?_
        refine HL.nil ?_
        refine HQ.next ?_
        refine HC.ret ?_
        rw [show decide (n < pf) = true from decide_eq_true (by unfold pf; omega)]
        exact HQ.retct 0 rfl rfl rfl rfl Tryd.underlying24 rfl (by kernel_rfl) (pure_end rfl)
      · refine HL.valg rfl (((Val.lss rfl rfl).as (congrArg Value.bool (lssN (n % 18446744073709551616) 1))).as (congrArg Value.bool (decide_eq_false h3))) (by decide) ?_
        refine HL.valg rfl (Val.pickT rfl rfl) (by decide) ?_
        refine HL.val (Val.pickF rfl rfl) (by decide) ?_
        refine HL.val (Val.assign rfl) (by decide) ?_
        refine HL.nil ?_
        refine HQ.next ?_
        refine HC.ret ?_
        rw [show decide (n < pf) = false from decide_eq_false (by unfold pf; omega)]
        exact HQ.retct 0 rfl rfl rfl rfl Tryd.underlying24 rfl (by kernel_rfl) (pure_end rfl)
    · refine HL.valg rfl (((Val.eqlI rfl rfl).as (congrArg Value.bool (eqlC (n / 18446744073709551616) 18446744073709551588))).as (congrArg Value.bool (decide_eq_false h2))) (by decide) ?_
      refine HL.valg rfl (Val.move rfl) (by decide) ?_
      refine HL.skip rfl (by decide) ?_
      refine HL.skip rfl (by decide) ?_
      refine HL.skip rfl (by decide) ?_
      refine HL.valg rfl (Val.pickF rfl rfl) (by decide) ?_
      refine HL.val (Val.pickF rfl rfl) (by decide) ?_
      refine HL.val (Val.assign rfl) (by decide) ?_
      refine HL.nil ?_
      refine HQ.next ?_
      refine HC.ret ?_
      rw [show decide (n < pf) = false from decide_eq_false (by unfold pf; omega)]
      exact HQ.retct 0 rfl rfl rfl rfl Tryd.underlying24 rfl (by kernel_rfl) (pure_end rfl)
end Go.Proofs.YtgdfdkpkhjbibaaDoor
