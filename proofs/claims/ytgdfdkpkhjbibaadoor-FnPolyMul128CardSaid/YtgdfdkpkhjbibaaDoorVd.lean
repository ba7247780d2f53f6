/-
  Values of polynomials; lists added, subtracted, scaled, multiplied out; the functions on lists of bytes (written by genvd.py).
-/
import Derived.Test.YtgdfdkpkhjbibaaDoorVc
namespace Go.Proofs.YtgdfdkpkhjbibaaDoor
open Go.RowKit
theorem evL_last {l : List Nat} {z : Nat} (h : 0 < l.length) (hp : AllLt l) : evL (l.drop (l.length - 1)) z = l.getD (l.length - 1) 0 := by
  have e := evL_drop z (show l.length - 1 < l.length by omega)
  rw [e, List.drop_of_length_le (by omega)]
  show (0 * z % pf + _) % pf = _
  rw [Nat.zero_mul, Nat.zero_mod, Nat.zero_add, Nat.mod_eq_of_lt (hp _ (by omega))]
/-- Sums of products. -/
def dotK (l m : List Nat) : Nat → Nat
  | 0 => 0
  | k + 1 => (dotK l m k + l.getD k 0 * m.getD k 0 % pf) % pf
theorem dotK_lt (l m : List Nat) : ∀ k, dotK l m k < pf
  | 0 => pf_pos
  | _ + 1 => Nat.mod_lt _ pf_pos
/-- How many coefficients are left where the zeros at the end of the first q are taken off. -/
def stripK (l : List Nat) : Nat → Nat
  | 0 => 0
  | q + 1 => if l.getD q 0 = 0 then stripK l q else q + 1
theorem stripK_le (l : List Nat) : ∀ q, stripK l q ≤ q
  | 0 => Nat.le_refl _
  | q + 1 => by
    unfold stripK
    split
    · have := stripK_le l q; omega
    · exact Nat.le_refl _
theorem stripK_z {l : List Nat} {q : Nat} (h : l.getD q 0 = 0) : stripK l (q + 1) = stripK l q := if_pos h
theorem stripK_n {l : List Nat} {q : Nat} (h : ¬ l.getD q 0 = 0) : stripK l (q + 1) = q + 1 := if_neg h
theorem allLt_take {l : List Nat} (h : AllLt l) (k : Nat) : AllLt (l.take k) := fun i hi => by
  have hi2 : i < k := by simp only [List.length_take] at hi; omega
  have : (l.take k).getD i 0 = l.getD i 0 := by simp [List.getD, hi2]
  rw [this]; exact h.any i

theorem sub1N {k : Nat} (h1 : 0 < k) (h : k < 4611686018427387904) : IntKind.i64.wrap ((k : Int) - 1) = ((k - 1 : Nat) : Int) := by
  rw [IntKind.wrap_i64]; omega
theorem sub2N {k : Nat} (h1 : 0 < k) (h : k < 4611686018427387904) : IntKind.i64.wrap ((k : Int) - 2) = idxI (k - 1) := by
  rw [IntKind.wrap_i64]
  rcases k with _ | _ | k
  · omega
  · rfl
  · show _ = ((k : Nat) : Int); omega
set_option maxRecDepth 100000 in
theorem eval_nil {l : List Nat} {ad : Option Addr} {b o c bx ox x : Nat} {w0 : World} (_hs : SlA fpC 2 w0 ad b o l) (_hp : AllLt l) (_hx : FpAt w0 bx ox x) (_px : x < pf) (_hl : l.length ≤ 100000) (h0 : l.length = 0) :
    Calls Tryd.prog 84 #[.slice ad l.length c, .pointer (some ⟨bx, ox, none⟩)] w0 fun e w' => e = .returned (.agg (fpC (evL l x))) ∧ Below w0.heap.size w0 w' := by
  refine calls_H (args := [.slice ad l.length c, .pointer (some ⟨bx, ox, none⟩)]) (noD) [] Tryd.func84 rfl (m := 28) rfl rfl (hold_nil _ _) ?_
  refine HC.seq ?_
  refine HC.region ?_
  refine HL.new (New.alloc al81) (by decide) ?_
  intro b1 hb1
  refine HL.nil ?_
  refine HQ.next ?_
  refine HC.seq ?_
  refine HC.seq ?_
  refine HC.region ?_
  refine HL.val (Val.move rfl) (by decide) ?_
  refine HL.val (Val.lenS rfl rfl Tryd.underlying102) (by decide) ?_
  refine HL.val (Val.assign rfl) (by decide) ?_
  refine HL.nil ?_
  refine HQ.next ?_
  refine HC.seq ?_
  refine HC.region ?_
  refine HL.val (Val.move rfl) (by decide) ?_
  refine HL.val ((Val.neqI rfl rfl).as (congrArg Value.bool (neqL (b := 0) h0))) (by decide) ?_
  refine HL.nil ?_
  refine HQ.next ?_
  refine HC.no rfl ?_
  refine HC.skip ?_
  refine HQ.next ?_
  refine HC.ret ?_
  exact HQ.retc 0 rfl rfl rfl Tryd.underlying81 rfl (by kernel_rfl) (pure_end (congrArg Value.agg (show rawC 0 = fpC (evL l x) by rw [show l = [] from List.eq_nil_of_length_eq_zero h0]; show rawC 0 = rawC (mont 0); rw [mont_zero])))

set_option maxRecDepth 100000 in
theorem eval_cons {l : List Nat} {ad : Option Addr} {b o c bx ox x : Nat} {w0 : World} (hs : SlA fpC 2 w0 ad b o l) (hp : AllLt l) (hx : FpAt w0 bx ox x) (px : x < pf) (hl : l.length ≤ 100000) (h0 : 0 < l.length) :
    Calls Tryd.prog 84 #[.slice ad l.length c, .pointer (some ⟨bx, ox, none⟩)] w0 fun e w' => e = .returned (.agg (fpC (evL l x))) ∧ Below w0.heap.size w0 w' := by
  refine calls_H (args := [.slice ad l.length c, .pointer (some ⟨bx, ox, none⟩)]) (noD) [] Tryd.func84 rfl (m := 28) rfl rfl (hold_nil _ _) ?_
  refine HC.seq ?_
  refine HC.region ?_
  refine HL.new (New.alloc al81) (by decide) ?_
  intro b1 hb1
  refine HL.nil ?_
  refine HQ.next ?_
  refine HC.seq ?_
  refine HC.seq ?_
  refine HC.region ?_
  refine HL.val (Val.move rfl) (by decide) ?_
  refine HL.val (Val.lenS rfl rfl Tryd.underlying102) (by decide) ?_
  refine HL.val (Val.assign rfl) (by decide) ?_
  refine HL.nil ?_
  refine HQ.next ?_
  refine HC.seq ?_
  refine HC.region ?_
  refine HL.val (Val.move rfl) (by decide) ?_
  refine HL.val ((Val.neqI rfl rfl).as (congrArg Value.bool (neqT (b := 0) (by omega)))) (by decide) ?_
  refine HL.nil ?_
  refine HQ.next ?_
  refine HC.yes rfl ?_
  refine HC.seq ?_
  refine HC.region ?_
  refine HL.val (Val.move rfl) (by decide) ?_
  refine HL.val (Val.move rfl) (by decide) ?_
  refine HL.val ((Val.subI rfl rfl).as (congrArg (Value.int .i64) (sub1N h0 (by omega)))) (by decide) ?_
  refine HL.val (Val.ixSliceA (s := 2) (i := l.length - 1) (o + (l.length - 1) * 2) rfl (hs.at (i := l.length - 1) (by omega)) rfl Tryd.underlying102 (by kernel_rfl) (by omega) rfl) (by decide) ?_
  refine HL.val (Val.load_cells (fpC (l.getD (l.length - 1) 0)) rfl (fun w hw => (hs.sn szE hw.sn rfl).row szE (i := l.length - 1) (by omega)) Tryd.underlying81 rfl (by kernel_rfl)) (by decide) ?_
  refine HL.put 0 rfl (Put.row rfl rfl (by kernel_rfl) (szR _ _) (rawC_one _)) (.inl hb1) ?_
  simp only [List.set_cons_zero]
  refine HL.nil ?_
  refine HQ.next ?_
  refine HC.seq ?_
  refine HC.region ?_
  refine HL.val (Val.move rfl) (by decide) ?_
  refine HL.val ((Val.subI rfl rfl).as (congrArg (Value.int .i64) (sub2N h0 (by omega)))) (by decide) ?_
  refine HL.val (Val.assign rfl) (by decide) ?_
  refine HL.nil ?_
  refine HQ.next ?_
  refine HC.block ?_
  refine HC.loop (ι := {p : Nat // p < l.length}) (fun p => p.1) (fun p => [(0, .slice ad l.length c), (1, .pointer (some ⟨bx, ox, none⟩)), (4, .pointer (some ⟨b1, 0, none⟩)), (6, .int .i64 (idxI p.1))]) (fun p => [(b1, .cells (fpC (evL (l.drop p.1) x)) 81 (0, 0))]) ⟨l.length - 1, by omega⟩ (fun ac wc ha hw => ⟨ha.subS ⟨rfl, rfl, rfl, rfl, trivial⟩, by have h := hw.pick [0] (by simp); dsimp only; rw [evL_last h0 hp]; exact h⟩) ?_
  rintro ⟨q, hq⟩
  dsimp only
  rcases q with _ | q
  · dsimp only [idxI]
    refine HC.seq ?_
    refine HC.seq ?_
    refine HC.region ?_
    refine HL.val (Val.move rfl) (by decide) ?_
    refine HL.val ((Val.geq rfl rfl).as (v := .bool false) rfl) (by decide) ?_
    refine HL.nil ?_
    refine HQ.next ?_
    refine HC.no rfl ?_
    refine HC.exit ?_
    refine HQ.thenExit ?_
    refine HQ.thenExit ?_
    refine HQ.blockExit ?_
    refine HQ.next ?_
    refine HC.ret ?_
    exact HQ.retc 0 rfl rfl rfl Tryd.underlying81 rfl (by kernel_rfl) (pure_end (by rw [List.drop_zero]))
  · dsimp only [idxI]
    have hql : q < l.length := by omega
    refine HC.seq ?_
    refine HC.seq ?_
    refine HC.region ?_
    refine HL.val (Val.move rfl) (by decide) ?_
    refine HL.val ((Val.geq rfl rfl).as (congrArg Value.bool (geq0 q))) (by decide) ?_
    refine HL.nil ?_
    refine HQ.next ?_
    refine HC.yes rfl ?_
    refine HC.skip ?_
    refine HQ.next ?_
    refine HC.seq ?_
    refine HC.block ?_
    refine HC.seq ?_
    refine HC.region ?_
    refine HL.val (Val.move rfl) (by decide) ?_
    refine HL.callD en111 rfl (fpMulAssignH (dstf1 0 rfl (.inl hb1)) (loc1 0 rfl) (evL_lt _ _) (fun w hw => RawAt.sn hx hw.sn rfl) px) (by decide) ?_
    simp only [List.set_cons_zero]
    refine HL.nil ?_
    refine HQ.next ?_
    refine HC.region ?_
    refine HL.val (Val.move rfl) (by decide) ?_
    refine HL.val (Val.move rfl) (by decide) ?_
    refine HL.val (Val.ixSliceA (s := 2) (i := q) (o + q * 2) rfl (hs.at hql) rfl Tryd.underlying102 (by kernel_rfl) hql rfl) (by decide) ?_
    refine HL.callD en112 rfl (dst_eq (evL_drop x hql).symm (fpAddAssignH (dstf1 0 rfl (.inl hb1)) (loc1 0 rfl) (Nat.mod_lt _ pf_pos) (locS hs rfl hql) (hp q hql))) (by decide) ?_
    simp only [List.set_cons_zero]
    refine HL.nil ?_
    refine HQ.blockNormal ?_
    refine HQ.next ?_
    refine HC.region ?_
    refine HL.val (Val.move rfl) (by decide) ?_
    refine HL.val ((Val.subI rfl rfl).as (congrArg (Value.int .i64) (idx_wrap (q := q) (by omega)))) (by decide) ?_
    refine HL.val (Val.assign rfl) (by decide) ?_
    refine HL.nil ?_
    exact ⟨fun ac wc ha hw => ⟨⟨q, by omega⟩, by dsimp only; omega, ha.subS ⟨rfl, rfl, rfl, rfl, trivial⟩, hw.pick [0] (by simp)⟩⟩

theorem eval_any {l : List Nat} {ad : Option Addr} {b o c bx ox x : Nat} {w0 : World} (hs : SlA fpC 2 w0 ad b o l) (hp : AllLt l) (hx : FpAt w0 bx ox x) (px : x < pf) (hl : l.length ≤ 100000) :
    Calls Tryd.prog 84 #[.slice ad l.length c, .pointer (some ⟨bx, ox, none⟩)] w0 fun e w' => e = .returned (.agg (fpC (evL l x))) ∧ Below w0.heap.size w0 w' := by
  rcases Nat.eq_zero_or_pos l.length with h0 | h0
  · exact eval_nil hs hp hx px hl h0
  · exact eval_cons hs hp hx px hl h0

set_option maxRecDepth 100000 in
theorem seval_any {l : List Nat} {ad : Option Addr} {b o c x : Nat} {w0 : World} (hs : SlA wA 2 w0 ad b o l) (hp : AllLt l) (px : x < pf) (hl : l.length ≤ 100000) :
    Calls Tryd.prog 39 #[.agg fA, .slice ad l.length c, .agg (wA x)] w0 fun e w' => e = .returned (.agg (wA (evL l x))) ∧ Below w0.heap.size w0 w' := by
  refine calls_H (args := [.agg fA, .slice ad l.length c, .agg (wA x)]) (noD) [] Tryd.func39 rfl (m := 28) rfl rfl (hold_nil _ _) ?_
  refine HC.seq ?_
  refine HC.region ?_
  refine HL.new (New.box rfl) (by decide) ?_
  intro b1 hb1
  refine HL.new (New.box rfl) (by decide) ?_
  intro b2 hb2
  refine HL.new (New.alloc al25) (by decide) ?_
  intro b3 hb3
  refine HL.nil ?_
  refine HQ.next ?_
  refine HC.seq ?_
  refine HC.region ?_
  refine HL.val (Val.build rfl built_w0) (by decide) ?_
  refine HL.new (New.alloc al25) (by decide) ?_
  intro b4 hb4
  refine HL.put 0 rfl (Put.row rfl rfl (by kernel_rfl) rfl (wA_one _)) (.inl hb4) ?_
  simp only [List.set_cons_zero]
  refine HL.nil ?_
  refine HQ.next ?_
  refine HC.seq ?_
  refine HC.seq ?_
  refine HC.region ?_
  refine HL.val (Val.move rfl) (by decide) ?_
  refine HL.val (Val.lenS rfl rfl Tryd.underlying51) (by decide) ?_
  refine HL.val ((Val.subI rfl rfl).as (congrArg (Value.int .i64) (idx_wrap (q := l.length) (by omega)))) (by decide) ?_
  refine HL.val (Val.assign rfl) (by decide) ?_
  refine HL.nil ?_
  refine HQ.next ?_
  refine HC.block ?_
  refine HC.loop (ι := {p : Nat // p ≤ l.length}) (fun p => p.1) (fun p => [(8, .int .i64 (idxI p.1)), (1, .slice ad l.length c), (7, .pointer (some ⟨b4, 0, none⟩)), (3, .pointer (some ⟨b1, 0, none⟩)), (5, .pointer (some ⟨b2, 0, none⟩)), (6, .pointer (some ⟨b3, 0, none⟩))]) (fun p => [(b4, .cells (wA (evL (l.drop p.1) x)) 25 (0, 0)), (b1, .cells fA 27 (0, 0)), (b2, .cells (wA x) 25 (0, 0)), (b3, .cells (wA 0) 25 (0, 0))]) ⟨l.length, Nat.le_refl _⟩ (fun ac wc ha hw => ⟨ha.subS ⟨rfl, rfl, rfl, rfl, rfl, rfl, trivial⟩, by have h := hw.pick [0, 3, 2, 1] (by simp); dsimp only; rw [List.drop_length]; exact h⟩) ?_
  rintro ⟨q, hq⟩
  dsimp only
  rcases q with _ | q
  · dsimp only [idxI]
    refine HC.seq ?_
    refine HC.seq ?_
    refine HC.region ?_
    refine HL.val (Val.move rfl) (by decide) ?_
    refine HL.val ((Val.geq rfl rfl).as (v := .bool false) rfl) (by decide) ?_
    refine HL.nil ?_
    refine HQ.next ?_
    refine HC.no rfl ?_
    refine HC.exit ?_
    refine HQ.thenExit ?_
    refine HQ.thenExit ?_
    refine HQ.blockExit ?_
    refine HQ.next ?_
    refine HC.seq ?_
    refine HC.region ?_
    refine HL.val (Val.load_row rfl (fun w hw => hw.at (i := 0) rfl) Tryd.underlying25 rfl (by kernel_rfl)) (by decide) ?_
    refine HL.put 3 rfl (Put.row rfl rfl (by kernel_rfl) rfl (wA_one _)) (.inl hb3) ?_
    simp only [List.set_cons_zero, List.set_cons_succ]
    refine HL.nil ?_
    refine HQ.next ?_
    refine HC.ret ?_
    exact HQ.retc 3 rfl rfl rfl Tryd.underlying25 rfl (by kernel_rfl) (pure_end (by rw [List.drop_zero]))
  · dsimp only [idxI]
    have hql : q < l.length := by omega
    refine HC.seq ?_
    refine HC.seq ?_
    refine HC.region ?_
    refine HL.val (Val.move rfl) (by decide) ?_
    refine HL.val ((Val.geq rfl rfl).as (congrArg Value.bool (geq0 q))) (by decide) ?_
    refine HL.nil ?_
    refine HQ.next ?_
    refine HC.yes rfl ?_
    refine HC.skip ?_
    refine HQ.next ?_
    refine HC.seq ?_
    refine HC.block ?_
    refine HC.draw0 10 (by kernel_rfl) (by kernel_rfl) ?_
    simp only [List.take, List.drop]
    refine HV.val (Val.load_row rfl (fun w hw => hw.at (i := 1) rfl) Tryd.underlying27 rfl (by kernel_rfl)) (by decide) ?_
    refine HV.val (Val.load_row rfl (fun w hw => hw.at (i := 1) rfl) Tryd.underlying27 rfl (by kernel_rfl)) (by decide) ?_
    refine HV.val (Val.load_row rfl (fun w hw => hw.at (i := 0) rfl) Tryd.underlying25 rfl (by kernel_rfl)) (by decide) ?_
    refine HV.val (Val.load_row rfl (fun w hw => hw.at (i := 2) rfl) Tryd.underlying25 rfl (by kernel_rfl)) (by decide) ?_
    refine HV.val (Val.call en45 (smul_p ((evL (l.drop (q + 1)) x)) x (evL_lt _ _) (lt_b px)) rfl) (by decide) ?_
    refine HV.val (Val.move rfl) (by decide) ?_
    refine HV.val (Val.move rfl) (by decide) ?_
    refine HV.val (Val.ixSliceA (s := 2) (i := q) (o + q * 2) rfl (hs.at hql) rfl Tryd.underlying51 (by kernel_rfl) hql rfl) (by decide) ?_
    refine HV.val (Val.load_cells (wA (l.getD q 0)) rfl (fun w hw => (hs.sn szWA hw.sn rfl).row szWA hql) Tryd.underlying25 rfl (by kernel_rfl)) (by decide) ?_
    refine HV.val (Val.call en41 (sadd_p ((((evL (l.drop (q + 1)) x)) * x % pf)) ((l.getD q 0)) (Nat.mod_lt _ pf_pos) (hp q hql)) rfl) (by decide) ?_
    refine HV.tail0 ?_
    refine HL.put 0 rfl (Put.row rfl rfl (by kernel_rfl) rfl (wA_one _)) (.inl hb4) ?_
    simp only [List.set_cons_zero]
    refine HL.nil ?_
    refine HQ.blockNormal ?_
    refine HQ.next ?_
    refine HC.region ?_
    refine HL.val (Val.move rfl) (by decide) ?_
    refine HL.val ((Val.subI rfl rfl).as (congrArg (Value.int .i64) (idx_wrap (q := q) (by omega)))) (by decide) ?_
    refine HL.val (Val.assign rfl) (by decide) ?_
    refine HL.nil ?_
    exact ⟨fun ac wc ha hw => ⟨⟨q, by omega⟩, by dsimp only; omega, ha.subS ⟨rfl, rfl, rfl, rfl, rfl, rfl, trivial⟩, by have h := hw.pick [0, 1, 2, 3] (by simp); simp only [List.filterMap_cons, List.filterMap_nil, List.getElem?_cons_zero, List.getElem?_cons_succ] at h; rw [← evL_drop x hql] at h; exact h⟩⟩

theorem two_lt : 2 < pf := by decide +kernel
set_option maxRecDepth 100000 in
theorem join_any {l : List Nat} {ad : Option Addr} {b o c : Nat} {w : World} (hg : GR w) (hs : SlA fpC 2 w ad b o l) (hp : AllLt l) (hl : l.length ≤ 100000) :
    Calls Tryd.prog 86 #[.slice ad l.length c] w fun e w' => e = .returned (.agg (fpC (evL l 2))) ∧ Below w.heap.size w w' := by
  refine calls_H (args := [.slice ad l.length c]) (noD) [] Tryd.func86 rfl (m := 7) rfl rfl (hold_nil _ _) ?_
  refine HC.seq ?_
  refine HC.region ?_
  refine HL.new (New.alloc al81) (by decide) ?_
  intro b1 hb1
  refine HL.nil ?_
  refine HQ.next ?_
  refine HC.seq ?_
  refine HC.region ?_
  refine HL.new (New.alloc al81) (by decide) ?_
  intro b2 hb2
  refine HL.nil ?_
  refine HQ.next ?_
  refine HC.seq ?_
  refine HC.region ?_
  refine HL.callD en76 rfl (fun w hw => lift_one hw (i := 0) rfl (.inl hb2) (setU_any (x := 2) (hw.at (i := 0) rfl) (hg.sn hw.sn rfl) (Nat.ne_of_lt (Nat.lt_of_lt_of_le hg.lt hb2)) two_lt (by decide))) (by decide) ?_
  simp only [List.set_cons_zero]
  refine HL.nil ?_
  refine HQ.next ?_
  refine HC.seq ?_
  refine HC.region ?_
  refine HL.val (Val.move rfl) (by decide) ?_
  refine HL.val (Val.calls en84 (fun w hw => eval_any (hs.sn szE hw.sn rfl) hp (RawAt.row (hw.at (i := 0) rfl)) two_lt hl) rfl) (by decide) ?_
  refine HL.put 1 rfl (Put.row rfl rfl (by kernel_rfl) (szR _ _) (rawC_one _)) (.inl hb1) ?_
  simp only [List.set_cons_zero, List.set_cons_succ]
  refine HL.nil ?_
  refine HQ.next ?_
  refine HC.ret ?_
  exact HQ.retc 1 rfl rfl rfl Tryd.underlying81 rfl (by kernel_rfl) (pure_end rfl)

set_option maxRecDepth 100000 in
theorem ijoin_good {l : List Nat} {ad : Option Addr} {b o c : Nat} {w : World} (hg : GR w) (hs : SlA (byA 16) 16 w ad b o l) (hp : AllLt l) (hl : l.length ≤ 100000) : Calls Tryd.prog 43 #[.slice ad l.length c] w fun e w' => e = .returned (.tuple #[byV 16 (evL l 2), .bool true]) ∧ Below w.heap.size w w' := by
  refine calls_H (args := [.slice ad l.length c]) (noD) [] Tryd.func43 rfl (m := 17) rfl rfl (hold_nil _ _) ?_
  refine HC.seq ?_
  refine HC.region ?_
  refine HL.new (New.alloc al30) (by decide) ?_
  intro b1 hb1
  refine HL.val (Val.assign rfl) (by decide) ?_
  refine HL.nil ?_
  refine HQ.next ?_
  refine HC.seq ?_
  refine HC.region ?_
  refine HL.val (Val.move rfl) (by decide) ?_
  refine HL.fam (FamV.call (R := fun r => True) (ob := fun r => .cells (flat fpC l) 81 (0, 0)) (pv := fun r => .tuple #[.slice (some ⟨r.1, 0, none⟩) l.length l.length, .bool true]) en81 (fun w hw => list_good (hg.sn hw.sn rfl) (hs.sn szBy hw.sn rfl) hp hl) rfl) (fun _ h => by cases h) (by decide) ?_
  intro b2 c2 q2 r2 hb2
  dsimp only
  refine HL.val (Val.move rfl) (by decide) ?_
  refine HL.val (Val.extract rfl rfl) (by decide) ?_
  refine HL.val (Val.extract rfl rfl) (by decide) ?_
  refine HL.val (Val.assign rfl) (by decide) ?_
  refine HL.val (Val.assign rfl) (by decide) ?_
  refine HL.nil ?_
  refine HQ.next ?_
  refine HC.seq ?_
  refine HC.seq ?_
  refine HC.region ?_
  refine HL.val (Val.move rfl) (by decide) ?_
  refine HL.val (Val.not rfl) (by decide) ?_
  refine HL.nil ?_
  refine HQ.next ?_
  refine HC.no rfl ?_
  refine HC.skip ?_
  refine HQ.next ?_
  refine HC.seq ?_
  refine HC.region ?_
  refine HL.val (Val.move rfl) (by decide) ?_
  refine HL.val (Val.calls en86 (fun w hw => join_any (hg.sn hw.sn rfl) (SlA.of_row szE (hw.at (i := 0) rfl)) hp hl) rfl) (by decide) ?_
  refine HL.val (Val.call en69 (told_p ((evL l 2)) (evL_lt _ _)) rfl) (by decide) ?_
  refine HL.put 1 rfl (Put.row rfl rfl (by kernel_rfl) (szB _ _ _) (oneB _ _)) (.inl hb1) ?_
  simp only [List.set_cons_zero, List.set_cons_succ]
  refine HL.val (Val.assign rfl) (by decide) ?_
  refine HL.nil ?_
  refine HQ.next ?_
  refine HC.ret ?_
  exact HQ.retct 1 rfl rfl rfl rfl Tryd.underlying30 rfl (by kernel_rfl) (pure_end rfl)

set_option maxRecDepth 100000 in
theorem ieval_good {l : List Nat} {ad : Option Addr} {b o c : Nat} {x : Nat} {w : World} (hg : GR w) (hs : SlA (byA 16) 16 w ad b o l) (hp : AllLt l) (hl : l.length ≤ 100000) (px : x < pf) : Calls Tryd.prog 38 #[.slice ad l.length c, byV 16 x] w fun e w' => e = .returned (.tuple #[byV 16 (evL l x), .bool true]) ∧ Below w.heap.size w w' := by
  refine calls_H (args := [.slice ad l.length c, byV 16 x]) (noD) [] Tryd.func38 rfl (m := 30) rfl rfl (hold_nil _ _) ?_
  refine HC.seq ?_
  refine HC.region ?_
  refine HL.new (New.box rfl) (by decide) ?_
  intro b1 hb1
  refine HL.new (New.alloc al30) (by decide) ?_
  intro b2 hb2
  refine HL.val (Val.assign rfl) (by decide) ?_
  refine HL.nil ?_
  refine HQ.next ?_
  refine HC.seq ?_
  refine HC.region ?_
  refine HL.val (Val.move rfl) (by decide) ?_
  refine HL.fam (FamV.call (R := fun r => True) (ob := fun r => .cells (flat fpC l) 81 (0, 0)) (pv := fun r => .tuple #[.slice (some ⟨r.1, 0, none⟩) l.length l.length, .bool true]) en81 (fun w hw => list_good (hg.sn hw.sn rfl) (hs.sn szBy hw.sn rfl) hp hl) rfl) (fun _ h => by cases h) (by decide) ?_
  intro b3 c3 q3 r3 hb3
  dsimp only
  refine HL.val (Val.move rfl) (by decide) ?_
  refine HL.val (Val.extract rfl rfl) (by decide) ?_
  refine HL.val (Val.extract rfl rfl) (by decide) ?_
  refine HL.val (Val.assign rfl) (by decide) ?_
  refine HL.val (Val.assign rfl) (by decide) ?_
  refine HL.nil ?_
  refine HQ.next ?_
  refine HC.seq ?_
  refine HC.region ?_
  refine HL.val (Val.load_row rfl (fun w hw => hw.at (i := 2) rfl) Tryd.underlying30 rfl (by kernel_rfl)) (by decide) ?_
  refine HL.val (Val.calls en71 (fun w hw => ofT (hg.sn hw.sn rfl) px) rfl) (by decide) ?_
  refine HL.val (Val.move rfl) (by decide) ?_
  refine HL.val (Val.extract rfl rfl) (by decide) ?_
  refine HL.val (Val.extract rfl rfl) (by decide) ?_
  refine HL.new (New.alloc al81) (by decide) ?_
  intro b4 hb4
  refine HL.put 0 rfl (Put.row rfl rfl (by kernel_rfl) (szR _ _) (rawC_one _)) (.inl hb4) ?_
  simp only [List.set_cons_zero]
  refine HL.val (Val.assign rfl) (by decide) ?_
  refine HL.nil ?_
  refine HQ.next ?_
  refine HC.seq ?_
  refine HC.seq ?_
  refine HC.region ?_
  refine HL.val (Val.move rfl) (by decide) ?_
  refine HL.val (Val.not rfl) (by decide) ?_
  refine HL.val (Val.move rfl) (by decide) ?_
  refine HL.valg rfl (Val.move rfl) (by decide) ?_
  refine HL.valg rfl (Val.not rfl) (by decide) ?_
  refine HL.val (Val.pickF rfl rfl) (by decide) ?_
  refine HL.nil ?_
  refine HQ.next ?_
  refine HC.no rfl ?_
  refine HC.skip ?_
  refine HQ.next ?_
  refine HC.seq ?_
  refine HC.region ?_
  refine HL.val (Val.move rfl) (by decide) ?_
  refine HL.val (Val.calls en84 (fun w hw => eval_any (SlA.of_row szE (hw.at (i := 1) rfl)) hp (RawAt.row (hw.at (i := 0) rfl)) px hl) rfl) (by decide) ?_
  refine HL.val (Val.call en69 (told_p ((evL l x)) (evL_lt _ _)) rfl) (by decide) ?_
  refine HL.put 2 rfl (Put.row rfl rfl (by kernel_rfl) (szB _ _ _) (oneB _ _)) (.inl hb2) ?_
  simp only [List.set_cons_zero, List.set_cons_succ]
  refine HL.val (Val.assign rfl) (by decide) ?_
  refine HL.nil ?_
  refine HQ.next ?_
  refine HC.ret ?_
  exact HQ.retct 2 rfl rfl rfl rfl Tryd.underlying30 rfl (by kernel_rfl) (pure_end rfl)

set_option maxRecDepth 100000 in
theorem strip_any {l : List Nat} {ad : Option Addr} {b o c : Nat} {w0 : World} (hs : SlA fpC 2 w0 ad b o l) (hp : AllLt l) (hl : l.length ≤ 100000) (hc : l.length ≤ c) :
    Calls Tryd.prog 83 #[.slice ad l.length c] w0 fun e w' => e = .returned (.slice ad (stripK l l.length) c) ∧ Below w0.heap.size w0 w' := by
  refine calls_H (args := [.slice ad l.length c]) (noD) [] Tryd.func83 rfl (m := 22) rfl rfl (hold_nil _ _) ?_
  refine HC.seq ?_
  refine HC.region ?_
  refine HL.val (Val.assign rfl) (by decide) ?_
  refine HL.nil ?_
  refine HQ.next ?_
  refine HC.seq ?_
  refine HC.seq ?_
  refine HC.region ?_
  refine HL.val (Val.move rfl) (by decide) ?_
  refine HL.val (Val.lenS rfl rfl Tryd.underlying102) (by decide) ?_
  refine HL.val ((Val.subI rfl rfl).as (congrArg (Value.int .i64) (idx_wrap (q := l.length) (by omega)))) (by decide) ?_
  refine HL.val (Val.assign rfl) (by decide) ?_
  refine HL.nil ?_
  refine HQ.next ?_
  refine HC.block ?_
  refine HC.loop (ι := {p : Nat // p ≤ l.length ∧ stripK l p = stripK l l.length}) (fun p => p.1) (fun p => [(3, .int .i64 (idxI p.1)), (0, .slice ad l.length c)]) (fun p => []) ⟨l.length, Nat.le_refl _, rfl⟩ (fun ac wc ha hw => ⟨ha.subS ⟨rfl, rfl, trivial⟩, hw.pick [] (by simp)⟩) ?_
  rintro ⟨q, hq, hst⟩
  dsimp only
  rcases q with _ | q
  · dsimp only [idxI]
    refine HC.seq ?_
    refine HC.seq ?_
    refine HC.region ?_
    refine HL.val (Val.move rfl) (by decide) ?_
    refine HL.val ((Val.geq rfl rfl).as (v := .bool false) rfl) (by decide) ?_
    refine HL.nil ?_
    refine HQ.next ?_
    refine HC.no rfl ?_
    refine HC.exit ?_
    refine HQ.thenExit ?_
    refine HQ.thenExit ?_
    refine HQ.blockExit ?_
    refine HQ.next ?_
    refine HC.seq ?_
    refine HC.region ?_
    refine HL.val (Val.move rfl) (by decide) ?_
    refine HL.val (Val.sliceSTo (s := 2) (h := 0) rfl rfl Tryd.underlying102 (by kernel_rfl) (Nat.zero_le _)) (by decide) ?_
    refine HL.val (Val.assign rfl) (by decide) ?_
    refine HL.nil ?_
    refine HQ.next ?_
    refine HC.ret ?_
    exact HQ.ret1 rfl rfl (pure_end (congrArg (fun z => Value.slice ad z c) (show 0 = stripK l l.length from hst)))
  · dsimp only [idxI]
    have hql : q < l.length := by omega
    refine HC.seq ?_
    refine HC.seq ?_
    refine HC.region ?_
    refine HL.val (Val.move rfl) (by decide) ?_
    refine HL.val ((Val.geq rfl rfl).as (congrArg Value.bool (geq0 q))) (by decide) ?_
    refine HL.nil ?_
    refine HQ.next ?_
    refine HC.yes rfl ?_
    refine HC.skip ?_
    refine HQ.next ?_
    refine HC.seq ?_
    refine HC.block ?_
    refine HC.seq ?_
    refine HC.region ?_
    refine HL.val (Val.move rfl) (by decide) ?_
    refine HL.val (Val.move rfl) (by decide) ?_
    refine HL.val (Val.ixSliceA (s := 2) (i := q) (o + q * 2) rfl (hs.at hql) rfl Tryd.underlying102 (by kernel_rfl) hql rfl) (by decide) ?_
    by_cases hz : l.getD q 0 = 0
    · refine HL.val ((Val.calls en72 (fun w hw => isZero_any (RawAt.sn (sl_at hs hql) hw.sn rfl) (hp q hql)) rfl).as (congrArg Value.bool (decide_eq_true hz))) (by decide) ?_
      refine HL.val (Val.not rfl) (by decide) ?_
      refine HL.nil ?_
      refine HQ.next ?_
      refine HC.no rfl ?_
      refine HC.skip ?_
      refine HQ.blockNormal ?_
      refine HQ.next ?_
      refine HC.region ?_
      refine HL.val (Val.move rfl) (by decide) ?_
      refine HL.val ((Val.subI rfl rfl).as (congrArg (Value.int .i64) (idx_wrap (q := q) (by omega)))) (by decide) ?_
      refine HL.val (Val.assign rfl) (by decide) ?_
      refine HL.nil ?_
      exact ⟨fun ac wc ha hw => ⟨⟨q, by omega, by rw [← hst, stripK_z hz]⟩, by dsimp only; omega, ha.subS ⟨rfl, rfl, trivial⟩, hw.pick [] (by simp)⟩⟩
    · refine HL.val ((Val.calls en72 (fun w hw => isZero_any (RawAt.sn (sl_at hs hql) hw.sn rfl) (hp q hql)) rfl).as (congrArg Value.bool (decide_eq_false hz))) (by decide) ?_
      refine HL.val (Val.not rfl) (by decide) ?_
      refine HL.nil ?_
      refine HQ.next ?_
      refine HC.yes rfl ?_
      refine HC.seq ?_
      refine HC.region ?_
      refine HL.val (Val.move rfl) (by decide) ?_
      refine HL.val (Val.move rfl) (by decide) ?_
      refine HL.val ((Val.addI rfl rfl).as (congrArg (Value.int .i64) (wrap1 q (by omega)))) (by decide) ?_
      refine HL.val (Val.sliceSTo (s := 2) (h := q + 1) rfl rfl Tryd.underlying102 (by kernel_rfl) (by omega)) (by decide) ?_
      refine HL.val (Val.assign rfl) (by decide) ?_
      refine HL.nil ?_
      refine HQ.next ?_
      refine HC.ret ?_
      refine HQ.blockRet ?_
      refine HQ.thenRet ?_
      refine HQ.thenRet ?_
      refine HQ.blockRet ?_
      refine HQ.thenRet ?_
      exact HQ.ret1 rfl rfl (pure_end (congrArg (fun z => Value.slice ad z c) ((stripK_n hz).symm.trans hst)))

theorem all_cut {l : List Nat} {ad : Option Addr} {b o c m : Nat} {w : World} (hs : SlA fpC 2 w ad b o l) (hp : AllLt l) (hl : l.length ≤ 100000) (hm : m ≤ l.length) :
    Calls Tryd.prog 82 #[.slice ad m c] w fun e w' => ∃ r : Fam, True ∧ e = .returned (.slice (some ⟨r.1, 0, none⟩) m m) ∧ Below w.heap.size w w' ∧ w.heap.size ≤ r.1 ∧ w'.heap[r.1]? = some (.cells (flat (byA 16) (l.take m)) 30 (0, 0)) := by
  have e : (l.take m).length = m := by rw [List.length_take]; omega
  have h := all_good (c := c) (hs.cut m) (allLt_take hp m) (by omega)
  rwa [e] at h
set_option maxRecDepth 100000 in
theorem istrip_good {l : List Nat} {ad : Option Addr} {b o c : Nat} {w : World} (hg : GR w) (hs : SlA (byA 16) 16 w ad b o l) (hp : AllLt l) (hl : l.length ≤ 100000) : Calls Tryd.prog 35 #[.slice ad l.length c] w fun e w' => ∃ r : Fam, True ∧ e = .returned (.tuple #[.slice (some ⟨r.1, 0, none⟩) (stripK l l.length) (stripK l l.length), .bool true]) ∧ Below w.heap.size w w' ∧ w.heap.size ≤ r.1 ∧ w'.heap[r.1]? = some (.cells (flat (byA 16) (l.take (stripK l l.length))) 30 (0, 0)) := by
  refine calls_H (args := [.slice ad l.length c]) (noD) [] Tryd.func35 rfl (m := 16) rfl rfl (hold_nil _ _) ?_
  refine HC.seq ?_
  refine HC.region ?_
  refine HL.val (Val.assign rfl) (by decide) ?_
  refine HL.val (Val.assign rfl) (by decide) ?_
  refine HL.nil ?_
  refine HQ.next ?_
  refine HC.seq ?_
  refine HC.region ?_
  refine HL.val (Val.move rfl) (by decide) ?_
  refine HL.fam (FamV.call (R := fun r => True) (ob := fun r => .cells (flat fpC l) 81 (0, 0)) (pv := fun r => .tuple #[.slice (some ⟨r.1, 0, none⟩) l.length l.length, .bool true]) en81 (fun w hw => list_good (hg.sn hw.sn rfl) (hs.sn szBy hw.sn rfl) hp hl) rfl) (fun _ h => by cases h) (by decide) ?_
  intro b1 c1 q1 r1 hb1
  dsimp only
  refine HL.val (Val.move rfl) (by decide) ?_
  refine HL.val (Val.extract rfl rfl) (by decide) ?_
  refine HL.val (Val.extract rfl rfl) (by decide) ?_
  refine HL.val (Val.assign rfl) (by decide) ?_
  refine HL.val (Val.assign rfl) (by decide) ?_
  refine HL.nil ?_
  refine HQ.next ?_
  refine HC.seq ?_
  refine HC.seq ?_
  refine HC.region ?_
  refine HL.val (Val.move rfl) (by decide) ?_
  refine HL.val (Val.not rfl) (by decide) ?_
  refine HL.nil ?_
  refine HQ.next ?_
  refine HC.no rfl ?_
  refine HC.skip ?_
  refine HQ.next ?_
  refine HC.seq ?_
  refine HC.region ?_
  refine HL.val (Val.move rfl) (by decide) ?_
  refine HL.val (Val.calls en83 (fun w hw => strip_any (SlA.of_row szE (hw.at (i := 0) rfl)) hp hl (Nat.le_refl _)) rfl) (by decide) ?_
  refine HL.fam (FamV.call (R := fun r => True) (ob := fun r => .cells (flat (byA 16) (l.take (stripK l l.length))) 30 (0, 0)) (pv := fun r => .slice (some ⟨r.1, 0, none⟩) (stripK l l.length) (stripK l l.length)) en82 (fun w hw => all_cut (SlA.of_row szE (hw.at (i := 0) rfl)) hp hl (stripK_le _ _)) rfl) (fun _ h => by cases h) (by decide) ?_
  intro b2 c2 q2 r2 hb2
  dsimp only
  refine HL.val (Val.assign rfl) (by decide) ?_
  refine HL.val (Val.assign rfl) (by decide) ?_
  refine HL.nil ?_
  refine HQ.next ?_
  refine HC.ret ?_
  refine HQ.ret2 rfl rfl rfl (fun w hw => ?_)
  exact ⟨(b2, 0, #[]), trivial, rfl, hw.sn.pure, hb2, hw.at (i := 0) rfl⟩

theorem sameLen_p (a1 a2 : Option Addr) (n c1 c2 : Nat) : Pure Tryd.prog 118 #[.slice a1 n c1, .slice a2 n c2] (.tuple #[]) := by
  intro w
  refine calls_H (args := [.slice a1 n c1, .slice a2 n c2]) (noD) [] Tryd.func118 rfl (m := 10) rfl rfl (hold_nil _ _) ?_
  refine HC.seq ?_
  refine HC.region ?_
  refine HL.val (Val.move rfl) (by decide) ?_
  refine HL.val (Val.lenS rfl rfl Tryd.underlying105) (by decide) ?_
  refine HL.val (Val.move rfl) (by decide) ?_
  refine HL.val (Val.lenS rfl rfl Tryd.underlying105) (by decide) ?_
  refine HL.val ((Val.neqI rfl rfl).as (congrArg Value.bool (neqL rfl))) (by decide) ?_
  refine HL.nil ?_
  refine HQ.next ?_
  refine HC.no rfl ?_
  refine HC.skip ?_
  exact HQ.end0 rfl (pure_end rfl)

set_option maxRecDepth 100000 in
theorem vAddAssign_any {l : List Nat} {b T c : Nat} {m : List Nat} {ad2 : Option Addr} {b2 o2 c2 : Nat} {w : World} (h0 : w.heap[b]? = some (.cells (flat fpC l) T (0, 0))) (hl : AllLt l) (hll : l.length ≤ 100000) (hs : SlA fpC 2 w ad2 b2 o2 m) (hm : AllLt m) (hlm : l.length = m.length) (hne : b2 ≠ b) :
    Calls Tryd.prog 94 #[.slice (some ⟨b, 0, none⟩) l.length c, .slice ad2 m.length c2] w fun e w' => e = .returned (.tuple #[]) ∧ Hold (fun k => k == b) w [(b, .cells (flat fpC ((List.range l.length).map fun i => (l.getD i 0 + m.getD i 0) % pf)) T (0, 0))] w' := by
  refine calls_H (args := [.slice (some ⟨b, 0, none⟩) l.length c, .slice ad2 m.length c2]) (fun k => k == b) [(b, .cells (flat fpC l) T (0, 0))] Tryd.func94 rfl (m := 21) rfl rfl (hold_one h0) ?_
  refine HC.seq ?_
  refine HC.region ?_
  refine HL.val (Val.move rfl) (by decide) ?_
  refine HL.val (Val.move rfl) (by decide) ?_
  refine HL.val (Val.call en118 (by rw [← hlm]; exact sameLen_p _ _ _ _ _) rfl) (by decide) ?_
  refine HL.nil ?_
  refine HQ.next ?_
  refine HC.seq ?_
  refine HC.region ?_
  refine HL.val (Val.move rfl) (by decide) ?_
  refine HL.val (Val.lenS rfl rfl Tryd.underlying105) (by decide) ?_
  refine HL.val (Val.move rfl) (by decide) ?_
  refine HL.nil ?_
  refine HQ.next ?_
  refine HC.block ?_
  refine HC.loop (ι := {p : Nat // p ≤ l.length}) (fun p => l.length - p.1) (fun p => [(0, .slice (some ⟨b, 0, none⟩) l.length c), (1, .slice ad2 m.length c2), (10, .int .i64 (p.1 : Int)), (9, .int .i64 (l.length : Int))]) (fun p => [(b, .cells (flat fpC (stM (fun i => (l.getD i 0 + m.getD i 0) % pf) l p.1)) T (0, 0))]) ⟨0, Nat.zero_le _⟩ (fun ac wc ha hw => ⟨ha.subS ⟨rfl, rfl, rfl, rfl, trivial⟩, by have h := hw.pick [0] (by simp); dsimp only; rw [stM_zero]; exact h⟩) ?_
  rintro ⟨k, hk⟩
  dsimp only
  refine HC.seq ?_
  refine HC.region ?_
  by_cases hkl : k < l.length
  · refine HL.val ((Val.lss rfl rfl).as (congrArg Value.bool ((lssN k l.length).trans (decide_eq_true hkl)))) (by decide) ?_
    refine HL.nil ?_
    refine HQ.next ?_
    refine HC.seq ?_
    refine HC.yes rfl ?_
    refine HC.skip ?_
    refine HQ.next ?_
    refine HC.seq ?_
    refine HC.block ?_
    refine HC.seq ?_
    refine HC.region ?_
    refine HL.val (Val.move rfl) (by decide) ?_
    refine HL.val (Val.assign rfl) (by decide) ?_
    refine HL.nil ?_
    refine HQ.next ?_
    refine HC.draw0 6 (by kernel_rfl) (by kernel_rfl) ?_
    simp only [List.take, List.drop]
    refine HV.val (Val.move rfl) (by decide) ?_
    refine HV.val (Val.move rfl) (by decide) ?_
    refine HV.val (Val.ixSlice (s := 2) (i := k) (k * 2) rfl rfl Tryd.underlying105 (by kernel_rfl) hkl (by omega)) (by decide) ?_
    refine HV.val (Val.move rfl) (by decide) ?_
    refine HV.val (Val.move rfl) (by decide) ?_
    refine HV.val (Val.ixSliceA (s := 2) (i := k) (o2 + k * 2) rfl (hs.at (hlm ▸ hkl)) rfl Tryd.underlying105 (by kernel_rfl) (hlm ▸ hkl) rfl) (by decide) ?_
    refine HV.tail0 ?_
    refine HL.callD en112 rfl (fpAddAssignH (dstE 0 rfl (by rw [stM_len]; exact hkl) (ownB b)) (by rw [← show (stM (fun i => (l.getD i 0 + m.getD i 0) % pf) l k).getD k 0 = l.getD k 0 by rw [stM_get (fun i => (l.getD i 0 + m.getD i 0) % pf) l k hkl, if_neg (Nat.lt_irrefl k)]]; exact locE 0 rfl (by rw [stM_len]; exact hkl)) (hl.any k) (locS hs (by simpa using hne) (hlm ▸ hkl)) (hm.any k)) (by decide) ?_
    simp only [List.set_cons_zero]
    refine HL.nil ?_
    refine HQ.blockNormal ?_
    refine HQ.next ?_
    refine HC.region ?_
    refine HL.val ((Val.addI rfl rfl).as (congrArg (Value.int .i64) (wrap1 k (by omega)))) (by decide) ?_
    refine HL.val (Val.move rfl) (by decide) ?_
    refine HL.nil ?_
    exact ⟨fun ac wc ha hw => ⟨⟨k + 1, hkl⟩, by dsimp only; omega, ha.subS ⟨rfl, rfl, rfl, rfl, trivial⟩, by have h := hw.pick [0] (by simp); simp only [List.filterMap_cons, List.filterMap_nil, List.getElem?_cons_zero] at h; rw [stM_set (fun i => (l.getD i 0 + m.getD i 0) % pf) hkl rfl] at h; exact h⟩⟩
  · refine HL.val ((Val.lss rfl rfl).as (congrArg Value.bool ((lssN k l.length).trans (decide_eq_false hkl)))) (by decide) ?_
    refine HL.nil ?_
    refine HQ.next ?_
    refine HC.seq ?_
    refine HC.no rfl ?_
    refine HC.exit ?_
    refine HQ.thenExit ?_
    refine HQ.thenExit ?_
    refine HQ.blockExit ?_
    refine HQ.end0 rfl (fun w hw => ⟨rfl, ?_⟩)
    have h := hw.pick [0] (by simp)
    simp only [List.filterMap_cons, List.filterMap_nil, List.getElem?_cons_zero] at h
    rw [stM_end (fun i => (l.getD i 0 + m.getD i 0) % pf) l (by omega)] at h
    exact h

set_option maxRecDepth 100000 in
theorem vSubAssign_any {l : List Nat} {b T c : Nat} {m : List Nat} {ad2 : Option Addr} {b2 o2 c2 : Nat} {w : World} (h0 : w.heap[b]? = some (.cells (flat fpC l) T (0, 0))) (hl : AllLt l) (hll : l.length ≤ 100000) (hs : SlA fpC 2 w ad2 b2 o2 m) (hm : AllLt m) (hlm : l.length = m.length) (hne : b2 ≠ b) :
    Calls Tryd.prog 95 #[.slice (some ⟨b, 0, none⟩) l.length c, .slice ad2 m.length c2] w fun e w' => e = .returned (.tuple #[]) ∧ Hold (fun k => k == b) w [(b, .cells (flat fpC ((List.range l.length).map fun i => subF (l.getD i 0) (m.getD i 0))) T (0, 0))] w' := by
  refine calls_H (args := [.slice (some ⟨b, 0, none⟩) l.length c, .slice ad2 m.length c2]) (fun k => k == b) [(b, .cells (flat fpC l) T (0, 0))] Tryd.func95 rfl (m := 21) rfl rfl (hold_one h0) ?_
  refine HC.seq ?_
  refine HC.region ?_
  refine HL.val (Val.move rfl) (by decide) ?_
  refine HL.val (Val.move rfl) (by decide) ?_
  refine HL.val (Val.call en118 (by rw [← hlm]; exact sameLen_p _ _ _ _ _) rfl) (by decide) ?_
  refine HL.nil ?_
  refine HQ.next ?_
  refine HC.seq ?_
  refine HC.region ?_
  refine HL.val (Val.move rfl) (by decide) ?_
  refine HL.val (Val.lenS rfl rfl Tryd.underlying105) (by decide) ?_
  refine HL.val (Val.move rfl) (by decide) ?_
  refine HL.nil ?_
  refine HQ.next ?_
  refine HC.block ?_
  refine HC.loop (ι := {p : Nat // p ≤ l.length}) (fun p => l.length - p.1) (fun p => [(0, .slice (some ⟨b, 0, none⟩) l.length c), (1, .slice ad2 m.length c2), (10, .int .i64 (p.1 : Int)), (9, .int .i64 (l.length : Int))]) (fun p => [(b, .cells (flat fpC (stM (fun i => subF (l.getD i 0) (m.getD i 0)) l p.1)) T (0, 0))]) ⟨0, Nat.zero_le _⟩ (fun ac wc ha hw => ⟨ha.subS ⟨rfl, rfl, rfl, rfl, trivial⟩, by have h := hw.pick [0] (by simp); dsimp only; rw [stM_zero]; exact h⟩) ?_
  rintro ⟨k, hk⟩
  dsimp only
  refine HC.seq ?_
  refine HC.region ?_
  by_cases hkl : k < l.length
  · refine HL.val ((Val.lss rfl rfl).as (congrArg Value.bool ((lssN k l.length).trans (decide_eq_true hkl)))) (by decide) ?_
    refine HL.nil ?_
    refine HQ.next ?_
    refine HC.seq ?_
    refine HC.yes rfl ?_
    refine HC.skip ?_
    refine HQ.next ?_
    refine HC.seq ?_
    refine HC.block ?_
    refine HC.seq ?_
    refine HC.region ?_
    refine HL.val (Val.move rfl) (by decide) ?_
    refine HL.val (Val.assign rfl) (by decide) ?_
    refine HL.nil ?_
    refine HQ.next ?_
    refine HC.draw0 6 (by kernel_rfl) (by kernel_rfl) ?_
    simp only [List.take, List.drop]
    refine HV.val (Val.move rfl) (by decide) ?_
    refine HV.val (Val.move rfl) (by decide) ?_
    refine HV.val (Val.ixSlice (s := 2) (i := k) (k * 2) rfl rfl Tryd.underlying105 (by kernel_rfl) hkl (by omega)) (by decide) ?_
    refine HV.val (Val.move rfl) (by decide) ?_
    refine HV.val (Val.move rfl) (by decide) ?_
    refine HV.val (Val.ixSliceA (s := 2) (i := k) (o2 + k * 2) rfl (hs.at (hlm ▸ hkl)) rfl Tryd.underlying105 (by kernel_rfl) (hlm ▸ hkl) rfl) (by decide) ?_
    refine HV.tail0 ?_
    refine HL.callD en119 rfl (fpSubAssignH (dstE 0 rfl (by rw [stM_len]; exact hkl) (ownB b)) (by rw [← show (stM (fun i => subF (l.getD i 0) (m.getD i 0)) l k).getD k 0 = l.getD k 0 by rw [stM_get (fun i => subF (l.getD i 0) (m.getD i 0)) l k hkl, if_neg (Nat.lt_irrefl k)]]; exact locE 0 rfl (by rw [stM_len]; exact hkl)) (hl.any k) (locS hs (by simpa using hne) (hlm ▸ hkl)) (hm.any k)) (by decide) ?_
    simp only [List.set_cons_zero]
    refine HL.nil ?_
    refine HQ.blockNormal ?_
    refine HQ.next ?_
    refine HC.region ?_
    refine HL.val ((Val.addI rfl rfl).as (congrArg (Value.int .i64) (wrap1 k (by omega)))) (by decide) ?_
    refine HL.val (Val.move rfl) (by decide) ?_
    refine HL.nil ?_
    exact ⟨fun ac wc ha hw => ⟨⟨k + 1, hkl⟩, by dsimp only; omega, ha.subS ⟨rfl, rfl, rfl, rfl, trivial⟩, by have h := hw.pick [0] (by simp); simp only [List.filterMap_cons, List.filterMap_nil, List.getElem?_cons_zero] at h; rw [stM_set (fun i => subF (l.getD i 0) (m.getD i 0)) hkl rfl] at h; exact h⟩⟩
  · refine HL.val ((Val.lss rfl rfl).as (congrArg Value.bool ((lssN k l.length).trans (decide_eq_false hkl)))) (by decide) ?_
    refine HL.nil ?_
    refine HQ.next ?_
    refine HC.seq ?_
    refine HC.no rfl ?_
    refine HC.exit ?_
    refine HQ.thenExit ?_
    refine HQ.thenExit ?_
    refine HQ.blockExit ?_
    refine HQ.end0 rfl (fun w hw => ⟨rfl, ?_⟩)
    have h := hw.pick [0] (by simp)
    simp only [List.filterMap_cons, List.filterMap_nil, List.getElem?_cons_zero] at h
    rw [stM_end (fun i => subF (l.getD i 0) (m.getD i 0)) l (by omega)] at h
    exact h

set_option maxRecDepth 100000 in
theorem vScalarMul_any {l : List Nat} {b T c : Nat} {bx ox x : Nat} {w : World} (h0 : w.heap[b]? = some (.cells (flat fpC l) T (0, 0))) (hl : AllLt l) (hll : l.length ≤ 100000) (hx : FpAt w bx ox x) (px : x < pf) (hne : bx ≠ b) :
    Calls Tryd.prog 96 #[.slice (some ⟨b, 0, none⟩) l.length c, .pointer (some ⟨bx, ox, none⟩)] w fun e w' => e = .returned (.tuple #[]) ∧ Hold (fun k => k == b) w [(b, .cells (flat fpC ((List.range l.length).map fun i => l.getD i 0 * x % pf)) T (0, 0))] w' := by
  refine calls_H (args := [.slice (some ⟨b, 0, none⟩) l.length c, .pointer (some ⟨bx, ox, none⟩)]) (fun k => k == b) [(b, .cells (flat fpC l) T (0, 0))] Tryd.func96 rfl (m := 16) rfl rfl (hold_one h0) ?_
  refine HC.seq ?_
  refine HC.region ?_
  refine HL.val (Val.move rfl) (by decide) ?_
  refine HL.val (Val.lenS rfl rfl Tryd.underlying105) (by decide) ?_
  refine HL.val (Val.move rfl) (by decide) ?_
  refine HL.nil ?_
  refine HQ.next ?_
  refine HC.block ?_
  refine HC.loop (ι := {p : Nat // p ≤ l.length}) (fun p => l.length - p.1) (fun p => [(0, .slice (some ⟨b, 0, none⟩) l.length c), (1, .pointer (some ⟨bx, ox, none⟩)), (7, .int .i64 (p.1 : Int)), (6, .int .i64 (l.length : Int))]) (fun p => [(b, .cells (flat fpC (stM (fun i => l.getD i 0 * x % pf) l p.1)) T (0, 0))]) ⟨0, Nat.zero_le _⟩ (fun ac wc ha hw => ⟨ha.subS ⟨rfl, rfl, rfl, rfl, trivial⟩, by have h := hw.pick [0] (by simp); dsimp only; rw [stM_zero]; exact h⟩) ?_
  rintro ⟨k, hk⟩
  dsimp only
  refine HC.seq ?_
  refine HC.region ?_
  by_cases hkl : k < l.length
  · refine HL.val ((Val.lss rfl rfl).as (congrArg Value.bool ((lssN k l.length).trans (decide_eq_true hkl)))) (by decide) ?_
    refine HL.nil ?_
    refine HQ.next ?_
    refine HC.seq ?_
    refine HC.yes rfl ?_
    refine HC.skip ?_
    refine HQ.next ?_
    refine HC.seq ?_
    refine HC.block ?_
    refine HC.seq ?_
    refine HC.region ?_
    refine HL.val (Val.move rfl) (by decide) ?_
    refine HL.val (Val.assign rfl) (by decide) ?_
    refine HL.nil ?_
    refine HQ.next ?_
    refine HC.region ?_
    refine HL.val (Val.move rfl) (by decide) ?_
    refine HL.val (Val.move rfl) (by decide) ?_
    refine HL.val (Val.ixSlice (s := 2) (i := k) (k * 2) rfl rfl Tryd.underlying105 (by kernel_rfl) hkl (by omega)) (by decide) ?_
    refine HL.val (Val.move rfl) (by decide) ?_
    refine HL.callD en111 rfl (fpMulAssignH (dstE 0 rfl (by rw [stM_len]; exact hkl) (ownB b)) (by rw [← show (stM (fun i => l.getD i 0 * x % pf) l k).getD k 0 = l.getD k 0 by rw [stM_get (fun i => l.getD i 0 * x % pf) l k hkl, if_neg (Nat.lt_irrefl k)]]; exact locE 0 rfl (by rw [stM_len]; exact hkl)) (hl.any k) (fun w hw => RawAt.sn hx hw.sn (by simpa using hne)) px) (by decide) ?_
    simp only [List.set_cons_zero]
    refine HL.nil ?_
    refine HQ.blockNormal ?_
    refine HQ.next ?_
    refine HC.region ?_
    refine HL.val ((Val.addI rfl rfl).as (congrArg (Value.int .i64) (wrap1 k (by omega)))) (by decide) ?_
    refine HL.val (Val.move rfl) (by decide) ?_
    refine HL.nil ?_
    exact ⟨fun ac wc ha hw => ⟨⟨k + 1, hkl⟩, by dsimp only; omega, ha.subS ⟨rfl, rfl, rfl, rfl, trivial⟩, by have h := hw.pick [0] (by simp); simp only [List.filterMap_cons, List.filterMap_nil, List.getElem?_cons_zero] at h; rw [stM_set (fun i => l.getD i 0 * x % pf) hkl rfl] at h; exact h⟩⟩
  · refine HL.val ((Val.lss rfl rfl).as (congrArg Value.bool ((lssN k l.length).trans (decide_eq_false hkl)))) (by decide) ?_
    refine HL.nil ?_
    refine HQ.next ?_
    refine HC.seq ?_
    refine HC.no rfl ?_
    refine HC.exit ?_
    refine HQ.thenExit ?_
    refine HQ.thenExit ?_
    refine HQ.blockExit ?_
    refine HQ.end0 rfl (fun w hw => ⟨rfl, ?_⟩)
    have h := hw.pick [0] (by simp)
    simp only [List.filterMap_cons, List.filterMap_nil, List.getElem?_cons_zero] at h
    rw [stM_end (fun i => l.getD i 0 * x % pf) l (by omega)] at h
    exact h

theorem all_map {f : Nat → Nat} {k : Nat} {ad : Option Addr} {b o c : Nat} {w : World} (hs : SlA fpC 2 w ad b o ((List.range k).map f)) (hp : ∀ i, i < k → f i < pf) (hl : k ≤ 100000) :
    Calls Tryd.prog 82 #[.slice ad k c] w fun e w' => ∃ r : Fam, True ∧ e = .returned (.slice (some ⟨r.1, 0, none⟩) k k) ∧ Below w.heap.size w w' ∧ w.heap.size ≤ r.1 ∧ w'.heap[r.1]? = some (.cells (flat (byA 16) ((List.range k).map f)) 30 (0, 0)) := by
  have e : ((List.range k).map f).length = k := by simp
  have h := all_good (c := c) hs (allLt_mapR hp) (by omega)
  rwa [e] at h

set_option maxRecDepth 100000 in
theorem iVecAdd_good {l : List Nat} {ad : Option Addr} {b o c : Nat} {m : List Nat} {ad2 : Option Addr} {b2 o2 c2 : Nat} {w : World} (hg : GR w) (hs : SlA (byA 16) 16 w ad b o l) (hp : AllLt l) (hl : l.length ≤ 100000) (hs2 : SlA (byA 16) 16 w ad2 b2 o2 m) (hp2 : AllLt m) (hl2 : m.length ≤ 100000) (hlm : l.length = m.length) : Calls Tryd.prog 55 #[.slice ad l.length c, .slice ad2 m.length c2] w fun e w' => ∃ r : Fam, True ∧ e = .returned (.tuple #[.slice (some ⟨r.1, 0, none⟩) l.length l.length, .bool true]) ∧ Below w.heap.size w w' ∧ w.heap.size ≤ r.1 ∧ w'.heap[r.1]? = some (.cells (flat (byA 16) ((List.range l.length).map fun i => (l.getD i 0 + m.getD i 0) % pf)) 30 (0, 0)) := by
  refine calls_H (args := [.slice ad l.length c, .slice ad2 m.length c2]) (noD) [] Tryd.func55 rfl (m := 38) rfl rfl (hold_nil _ _) ?_
  refine HC.seq ?_
  refine HC.region ?_
  refine HL.val (Val.assign rfl) (by decide) ?_
  refine HL.val (Val.assign rfl) (by decide) ?_
  refine HL.nil ?_
  refine HQ.next ?_
  refine HC.seq ?_
  refine HC.region ?_
  refine HL.val (Val.move rfl) (by decide) ?_
  refine HL.fam (FamV.call (R := fun r => True) (ob := fun r => .cells (flat fpC l) 81 (0, 0)) (pv := fun r => .tuple #[.slice (some ⟨r.1, 0, none⟩) l.length l.length, .bool true]) en81 (fun w hw => list_good (hg.sn hw.sn rfl) (hs.sn szBy hw.sn rfl) hp hl) rfl) (fun _ h => by cases h) (by decide) ?_
  intro b1 c1 q1 r1 hb1
  dsimp only
  refine HL.val (Val.move rfl) (by decide) ?_
  refine HL.val (Val.extract rfl rfl) (by decide) ?_
  refine HL.val (Val.extract rfl rfl) (by decide) ?_
  refine HL.val (Val.assign rfl) (by decide) ?_
  refine HL.val (Val.assign rfl) (by decide) ?_
  refine HL.nil ?_
  refine HQ.next ?_
  refine HC.seq ?_
  refine HC.region ?_
  refine HL.val (Val.move rfl) (by decide) ?_
  refine HL.fam (FamV.call (R := fun r => True) (ob := fun r => .cells (flat fpC m) 81 (0, 0)) (pv := fun r => .tuple #[.slice (some ⟨r.1, 0, none⟩) m.length m.length, .bool true]) en81 (fun w hw => list_good (hg.sn hw.sn rfl) (hs2.sn szBy hw.sn rfl) hp2 hl2) rfl) (fun _ h => by cases h) (by decide) ?_
  intro b2 c2 q2 r2 hb2
  dsimp only
  refine HL.val (Val.move rfl) (by decide) ?_
  refine HL.val (Val.extract rfl rfl) (by decide) ?_
  refine HL.val (Val.extract rfl rfl) (by decide) ?_
  refine HL.val (Val.assign rfl) (by decide) ?_
  refine HL.val (Val.assign rfl) (by decide) ?_
  refine HL.nil ?_
  refine HQ.next ?_
  refine HC.seq ?_
  refine HC.seq ?_
  refine HC.region ?_
  refine HL.val (Val.move rfl) (by decide) ?_
  refine HL.val (Val.not rfl) (by decide) ?_
  refine HL.val (Val.move rfl) (by decide) ?_
  refine HL.valg rfl (Val.move rfl) (by decide) ?_
  refine HL.valg rfl (Val.not rfl) (by decide) ?_
  refine HL.val (Val.pickF rfl rfl) (by decide) ?_
  refine HL.val (Val.move rfl) (by decide) ?_
  refine HL.valg rfl (Val.move rfl) (by decide) ?_
  refine HL.valg rfl (Val.lenS rfl rfl Tryd.underlying47) (by decide) ?_
  refine HL.valg rfl (Val.move rfl) (by decide) ?_
  refine HL.valg rfl (Val.lenS rfl rfl Tryd.underlying47) (by decide) ?_
  refine HL.valg rfl ((Val.neqI rfl rfl).as (congrArg Value.bool (neqL hlm))) (by decide) ?_
  refine HL.val (Val.pickF rfl rfl) (by decide) ?_
  refine HL.nil ?_
  refine HQ.next ?_
  refine HC.no rfl ?_
  refine HC.skip ?_
  refine HQ.next ?_
  refine HC.seq ?_
  refine HC.region ?_
  refine HL.val (Val.move rfl) (by decide) ?_
  refine HL.val (Val.move rfl) (by decide) ?_
  refine HL.callD en94 rfl (fun w hw => lift_one hw (i := 1) rfl (.inl hb1) (vAddAssign_any (hw.at (i := 1) rfl) hp hl (SlA.of_row szE (hw.at (i := 0) rfl)) hp2 hlm (nd_ne hw (i := 0) (j := 1) rfl rfl (by decide)))) (by decide) ?_
  simp only [List.set_cons_zero, List.set_cons_succ]
  refine HL.nil ?_
  refine HQ.next ?_
  refine HC.seq ?_
  refine HC.region ?_
  refine HL.val (Val.move rfl) (by decide) ?_
  refine HL.fam (FamV.call (R := fun r => True) (ob := fun r => .cells (flat (byA 16) ((List.range l.length).map fun i => (l.getD i 0 + m.getD i 0) % pf)) 30 (0, 0)) (pv := fun r => .slice (some ⟨r.1, 0, none⟩) l.length l.length) en82 (fun w hw => all_map (f := fun i => (l.getD i 0 + m.getD i 0) % pf) (SlA.of_row szE (hw.at (i := 1) rfl)) (fun i hi => (Nat.mod_lt _ pf_pos)) hl) rfl) (fun _ h => by cases h) (by decide) ?_
  intro b3 c3 q3 r3 hb3
  dsimp only
  refine HL.val (Val.assign rfl) (by decide) ?_
  refine HL.val (Val.assign rfl) (by decide) ?_
  refine HL.nil ?_
  refine HQ.next ?_
  refine HC.ret ?_
  refine HQ.ret2 rfl rfl rfl (fun w hw => ?_)
  exact ⟨(b3, 0, #[]), trivial, rfl, hw.sn.pure, hb3, hw.at (i := 0) rfl⟩

set_option maxRecDepth 100000 in
theorem iVecSub_good {l : List Nat} {ad : Option Addr} {b o c : Nat} {m : List Nat} {ad2 : Option Addr} {b2 o2 c2 : Nat} {w : World} (hg : GR w) (hs : SlA (byA 16) 16 w ad b o l) (hp : AllLt l) (hl : l.length ≤ 100000) (hs2 : SlA (byA 16) 16 w ad2 b2 o2 m) (hp2 : AllLt m) (hl2 : m.length ≤ 100000) (hlm : l.length = m.length) : Calls Tryd.prog 56 #[.slice ad l.length c, .slice ad2 m.length c2] w fun e w' => ∃ r : Fam, True ∧ e = .returned (.tuple #[.slice (some ⟨r.1, 0, none⟩) l.length l.length, .bool true]) ∧ Below w.heap.size w w' ∧ w.heap.size ≤ r.1 ∧ w'.heap[r.1]? = some (.cells (flat (byA 16) ((List.range l.length).map fun i => subF (l.getD i 0) (m.getD i 0))) 30 (0, 0)) := by
  refine calls_H (args := [.slice ad l.length c, .slice ad2 m.length c2]) (noD) [] Tryd.func56 rfl (m := 38) rfl rfl (hold_nil _ _) ?_
  refine HC.seq ?_
  refine HC.region ?_
  refine HL.val (Val.assign rfl) (by decide) ?_
  refine HL.val (Val.assign rfl) (by decide) ?_
  refine HL.nil ?_
  refine HQ.next ?_
  refine HC.seq ?_
  refine HC.region ?_
  refine HL.val (Val.move rfl) (by decide) ?_
  refine HL.fam (FamV.call (R := fun r => True) (ob := fun r => .cells (flat fpC l) 81 (0, 0)) (pv := fun r => .tuple #[.slice (some ⟨r.1, 0, none⟩) l.length l.length, .bool true]) en81 (fun w hw => list_good (hg.sn hw.sn rfl) (hs.sn szBy hw.sn rfl) hp hl) rfl) (fun _ h => by cases h) (by decide) ?_
  intro b1 c1 q1 r1 hb1
  dsimp only
  refine HL.val (Val.move rfl) (by decide) ?_
  refine HL.val (Val.extract rfl rfl) (by decide) ?_
  refine HL.val (Val.extract rfl rfl) (by decide) ?_
  refine HL.val (Val.assign rfl) (by decide) ?_
  refine HL.val (Val.assign rfl) (by decide) ?_
  refine HL.nil ?_
  refine HQ.next ?_
  refine HC.seq ?_
  refine HC.region ?_
  refine HL.val (Val.move rfl) (by decide) ?_
  refine HL.fam (FamV.call (R := fun r => True) (ob := fun r => .cells (flat fpC m) 81 (0, 0)) (pv := fun r => .tuple #[.slice (some ⟨r.1, 0, none⟩) m.length m.length, .bool true]) en81 (fun w hw => list_good (hg.sn hw.sn rfl) (hs2.sn szBy hw.sn rfl) hp2 hl2) rfl) (fun _ h => by cases h) (by decide) ?_
  intro b2 c2 q2 r2 hb2
  dsimp only
  refine HL.val (Val.move rfl) (by decide) ?_
  refine HL.val (Val.extract rfl rfl) (by decide) ?_
  refine HL.val (Val.extract rfl rfl) (by decide) ?_
  refine HL.val (Val.assign rfl) (by decide) ?_
  refine HL.val (Val.assign rfl) (by decide) ?_
  refine HL.nil ?_
  refine HQ.next ?_
  refine HC.seq ?_
  refine HC.seq ?_
  refine HC.region ?_
  refine HL.val (Val.move rfl) (by decide) ?_
  refine HL.val (Val.not rfl) (by decide) ?_
  refine HL.val (Val.move rfl) (by decide) ?_
  refine HL.valg rfl (Val.move rfl) (by decide) ?_
  refine HL.valg rfl (Val.not rfl) (by decide) ?_
  refine HL.val (Val.pickF rfl rfl) (by decide) ?_
  refine HL.val (Val.move rfl) (by decide) ?_
  refine HL.valg rfl (Val.move rfl) (by decide) ?_
  refine HL.valg rfl (Val.lenS rfl rfl Tryd.underlying47) (by decide) ?_
  refine HL.valg rfl (Val.move rfl) (by decide) ?_
  refine HL.valg rfl (Val.lenS rfl rfl Tryd.underlying47) (by decide) ?_
  refine HL.valg rfl ((Val.neqI rfl rfl).as (congrArg Value.bool (neqL hlm))) (by decide) ?_
  refine HL.val (Val.pickF rfl rfl) (by decide) ?_
  refine HL.nil ?_
  refine HQ.next ?_
  refine HC.no rfl ?_
  refine HC.skip ?_
  refine HQ.next ?_
  refine HC.seq ?_
  refine HC.region ?_
  refine HL.val (Val.move rfl) (by decide) ?_
  refine HL.val (Val.move rfl) (by decide) ?_
  refine HL.callD en95 rfl (fun w hw => lift_one hw (i := 1) rfl (.inl hb1) (vSubAssign_any (hw.at (i := 1) rfl) hp hl (SlA.of_row szE (hw.at (i := 0) rfl)) hp2 hlm (nd_ne hw (i := 0) (j := 1) rfl rfl (by decide)))) (by decide) ?_
  simp only [List.set_cons_zero, List.set_cons_succ]
  refine HL.nil ?_
  refine HQ.next ?_
  refine HC.seq ?_
  refine HC.region ?_
  refine HL.val (Val.move rfl) (by decide) ?_
  refine HL.fam (FamV.call (R := fun r => True) (ob := fun r => .cells (flat (byA 16) ((List.range l.length).map fun i => subF (l.getD i 0) (m.getD i 0))) 30 (0, 0)) (pv := fun r => .slice (some ⟨r.1, 0, none⟩) l.length l.length) en82 (fun w hw => all_map (f := fun i => subF (l.getD i 0) (m.getD i 0)) (SlA.of_row szE (hw.at (i := 1) rfl)) (fun i hi => (subF_lt _ _)) hl) rfl) (fun _ h => by cases h) (by decide) ?_
  intro b3 c3 q3 r3 hb3
  dsimp only
  refine HL.val (Val.assign rfl) (by decide) ?_
  refine HL.val (Val.assign rfl) (by decide) ?_
  refine HL.nil ?_
  refine HQ.next ?_
  refine HC.ret ?_
  refine HQ.ret2 rfl rfl rfl (fun w hw => ?_)
  exact ⟨(b3, 0, #[]), trivial, rfl, hw.sn.pure, hb3, hw.at (i := 0) rfl⟩

set_option maxRecDepth 100000 in
theorem iVecScale_good {l : List Nat} {ad : Option Addr} {b o c : Nat} {x : Nat} {w : World} (hg : GR w) (hs : SlA (byA 16) 16 w ad b o l) (hp : AllLt l) (hl : l.length ≤ 100000) (px : x < pf) : Calls Tryd.prog 57 #[.slice ad l.length c, byV 16 x] w fun e w' => ∃ r : Fam, True ∧ e = .returned (.tuple #[.slice (some ⟨r.1, 0, none⟩) l.length l.length, .bool true]) ∧ Below w.heap.size w w' ∧ w.heap.size ≤ r.1 ∧ w'.heap[r.1]? = some (.cells (flat (byA 16) ((List.range l.length).map fun i => l.getD i 0 * x % pf)) 30 (0, 0)) := by
  refine calls_H (args := [.slice ad l.length c, byV 16 x]) (noD) [] Tryd.func57 rfl (m := 30) rfl rfl (hold_nil _ _) ?_
  refine HC.seq ?_
  refine HC.region ?_
  refine HL.new (New.box rfl) (by decide) ?_
  intro b1 hb1
  refine HL.val (Val.assign rfl) (by decide) ?_
  refine HL.val (Val.assign rfl) (by decide) ?_
  refine HL.nil ?_
  refine HQ.next ?_
  refine HC.seq ?_
  refine HC.region ?_
  refine HL.val (Val.move rfl) (by decide) ?_
  refine HL.fam (FamV.call (R := fun r => True) (ob := fun r => .cells (flat fpC l) 81 (0, 0)) (pv := fun r => .tuple #[.slice (some ⟨r.1, 0, none⟩) l.length l.length, .bool true]) en81 (fun w hw => list_good (hg.sn hw.sn rfl) (hs.sn szBy hw.sn rfl) hp hl) rfl) (fun _ h => by cases h) (by decide) ?_
  intro b2 c2 q2 r2 hb2
  dsimp only
  refine HL.val (Val.move rfl) (by decide) ?_
  refine HL.val (Val.extract rfl rfl) (by decide) ?_
  refine HL.val (Val.extract rfl rfl) (by decide) ?_
  refine HL.val (Val.assign rfl) (by decide) ?_
  refine HL.val (Val.assign rfl) (by decide) ?_
  refine HL.nil ?_
  refine HQ.next ?_
  refine HC.seq ?_
  refine HC.region ?_
  refine HL.val (Val.load_row rfl (fun w hw => hw.at (i := 1) rfl) Tryd.underlying30 rfl (by kernel_rfl)) (by decide) ?_
  refine HL.val (Val.calls en71 (fun w hw => ofT (hg.sn hw.sn rfl) px) rfl) (by decide) ?_
  refine HL.val (Val.move rfl) (by decide) ?_
  refine HL.val (Val.extract rfl rfl) (by decide) ?_
  refine HL.val (Val.extract rfl rfl) (by decide) ?_
  refine HL.new (New.alloc al81) (by decide) ?_
  intro b3 hb3
  refine HL.put 0 rfl (Put.row rfl rfl (by kernel_rfl) (szR _ _) (rawC_one _)) (.inl hb3) ?_
  simp only [List.set_cons_zero]
  refine HL.val (Val.assign rfl) (by decide) ?_
  refine HL.nil ?_
  refine HQ.next ?_
  refine HC.seq ?_
  refine HC.seq ?_
  refine HC.region ?_
  refine HL.val (Val.move rfl) (by decide) ?_
  refine HL.val (Val.not rfl) (by decide) ?_
  refine HL.val (Val.move rfl) (by decide) ?_
  refine HL.valg rfl (Val.move rfl) (by decide) ?_
  refine HL.valg rfl (Val.not rfl) (by decide) ?_
  refine HL.val (Val.pickF rfl rfl) (by decide) ?_
  refine HL.nil ?_
  refine HQ.next ?_
  refine HC.no rfl ?_
  refine HC.skip ?_
  refine HQ.next ?_
  refine HC.seq ?_
  refine HC.region ?_
  refine HL.val (Val.move rfl) (by decide) ?_
  refine HL.callD en96 rfl (fun w hw => lift_one hw (i := 1) rfl (.inl hb2) (vScalarMul_any (hw.at (i := 1) rfl) hp hl (RawAt.row (hw.at (i := 0) rfl)) px (nd_ne hw (i := 0) (j := 1) rfl rfl (by decide)))) (by decide) ?_
  simp only [List.set_cons_zero, List.set_cons_succ]
  refine HL.nil ?_
  refine HQ.next ?_
  refine HC.seq ?_
  refine HC.region ?_
  refine HL.val (Val.move rfl) (by decide) ?_
  refine HL.fam (FamV.call (R := fun r => True) (ob := fun r => .cells (flat (byA 16) ((List.range l.length).map fun i => l.getD i 0 * x % pf)) 30 (0, 0)) (pv := fun r => .slice (some ⟨r.1, 0, none⟩) l.length l.length) en82 (fun w hw => all_map (f := fun i => l.getD i 0 * x % pf) (SlA.of_row szE (hw.at (i := 1) rfl)) (fun i hi => (Nat.mod_lt _ pf_pos)) hl) rfl) (fun _ h => by cases h) (by decide) ?_
  intro b4 c4 q4 r4 hb4
  dsimp only
  refine HL.val (Val.assign rfl) (by decide) ?_
  refine HL.val (Val.assign rfl) (by decide) ?_
  refine HL.nil ?_
  refine HQ.next ?_
  refine HC.ret ?_
  refine HQ.ret2 rfl rfl rfl (fun w hw => ?_)
  exact ⟨(b4, 0, #[]), trivial, rfl, hw.sn.pure, hb4, hw.at (i := 0) rfl⟩

set_option maxRecDepth 100000 in
theorem dot_any {l m : List Nat} {ad ad2 : Option Addr} {b o c b2 o2 c2 : Nat} {w : World} (hs : SlA fpC 2 w ad b o l) (hp : AllLt l) (hl : l.length ≤ 100000) (hs2 : SlA fpC 2 w ad2 b2 o2 m) (hp2 : AllLt m) (hlm : l.length = m.length) :
    Calls Tryd.prog 97 #[.slice ad l.length c, .slice ad2 m.length c2] w fun e w' => e = .returned (.agg (fpC (dotK l m l.length))) ∧ Below w.heap.size w w' := by
  refine calls_H (args := [.slice ad l.length c, .slice ad2 m.length c2]) (noD) [] Tryd.func97 rfl (m := 24) rfl rfl (hold_nil _ _) ?_
  refine HC.seq ?_
  refine HC.region ?_
  refine HL.new (New.alloc al81) (by decide) ?_
  intro b1 hb1
  refine HL.nil ?_
  refine HQ.next ?_
  refine HC.seq ?_
  refine HC.region ?_
  refine HL.val (Val.move rfl) (by decide) ?_
  refine HL.val (Val.move rfl) (by decide) ?_
  refine HL.val (Val.call en118 (by rw [← hlm]; exact sameLen_p _ _ _ _ _) rfl) (by decide) ?_
  refine HL.nil ?_
  refine HQ.next ?_
  refine HC.seq ?_
  refine HC.region ?_
  refine HL.new (New.alloc al81) (by decide) ?_
  intro b2 hb2
  refine HL.nil ?_
  refine HQ.next ?_
  refine HC.seq ?_
  refine HC.seq ?_
  refine HC.region ?_
  refine HL.val (Val.move rfl) (by decide) ?_
  refine HL.val (Val.lenS rfl rfl Tryd.underlying105) (by decide) ?_
  refine HL.val (Val.move rfl) (by decide) ?_
  refine HL.nil ?_
  refine HQ.next ?_
  refine HC.block ?_
  refine HC.loop (ι := {p : Nat × Nat // p.1 ≤ l.length}) (fun p => l.length - p.1.1) (fun p => [(0, .slice ad l.length c), (1, .slice ad2 m.length c2), (4, .pointer (some ⟨b1, 0, none⟩)), (5, .pointer (some ⟨b2, 0, none⟩)), (12, .int .i64 (p.1.1 : Int)), (11, .int .i64 (l.length : Int))]) (fun p => [(b1, .cells (fpC (dotK l m p.1.1)) 81 (0, 0)), (b2, .cells (rawC p.1.2) 81 (0, 0))]) ⟨(0, 0), Nat.zero_le _⟩ (fun ac wc ha hw => ⟨ha.subS ⟨rfl, rfl, rfl, rfl, rfl, rfl, trivial⟩, by have h := hw.pick [1, 0] (by simp); dsimp only [dotK]; rw [show fpC 0 = rawC 0 by unfold fpC; rw [mont_zero]]; exact h⟩) ?_
  rintro ⟨⟨k, z⟩, hk⟩
  dsimp only at hk ⊢
  refine HC.seq ?_
  refine HC.region ?_
  by_cases hkl : k < l.length
  · refine HL.val ((Val.lss rfl rfl).as (congrArg Value.bool ((lssN k l.length).trans (decide_eq_true hkl)))) (by decide) ?_
    refine HL.nil ?_
    refine HQ.next ?_
    refine HC.seq ?_
    refine HC.yes rfl ?_
    refine HC.skip ?_
    refine HQ.next ?_
    refine HC.seq ?_
    refine HC.block ?_
    refine HC.seq ?_
    refine HC.region ?_
    refine HL.val (Val.move rfl) (by decide) ?_
    refine HL.val (Val.assign rfl) (by decide) ?_
    refine HL.nil ?_
    refine HQ.next ?_
    refine HC.seq ?_
    refine HC.draw0 6 (by kernel_rfl) (by kernel_rfl) ?_
    simp only [List.take, List.drop]
    refine HV.val (Val.move rfl) (by decide) ?_
    refine HV.val (Val.move rfl) (by decide) ?_
    refine HV.val (Val.ixSliceA (s := 2) (i := k) (o + k * 2) rfl (hs.at hkl) rfl Tryd.underlying105 (by kernel_rfl) hkl rfl) (by decide) ?_
    refine HV.val (Val.move rfl) (by decide) ?_
    refine HV.val (Val.move rfl) (by decide) ?_
    refine HV.val (Val.ixSliceA (s := 2) (i := k) (o2 + k * 2) rfl (hs2.at (hlm ▸ hkl)) rfl Tryd.underlying105 (by kernel_rfl) (hlm ▸ hkl) rfl) (by decide) ?_
    refine HV.tail0 ?_
    refine HL.callD en80 rfl (fpMulH (dstf1 1 rfl (.inl hb2)) (locS hs rfl hkl) (hp.any k) (locS hs2 rfl (hlm ▸ hkl)) (hp2.any k)) (by decide) ?_
    simp only [List.set_cons_zero, List.set_cons_succ]
    refine HL.nil ?_
    refine HQ.next ?_
    refine HC.region ?_
    refine HL.callD en112 rfl (fpAddAssignH (dstf1 0 rfl (.inl hb1)) (loc1 0 rfl) (dotK_lt _ _ _) (loc1 1 rfl) (Nat.mod_lt _ pf_pos)) (by decide) ?_
    simp only [List.set_cons_zero]
    refine HL.nil ?_
    refine HQ.blockNormal ?_
    refine HQ.next ?_
    refine HC.region ?_
    refine HL.val ((Val.addI rfl rfl).as (congrArg (Value.int .i64) (wrap1 k (by omega)))) (by decide) ?_
    refine HL.val (Val.move rfl) (by decide) ?_
    refine HL.nil ?_
    exact ⟨fun ac wc ha hw => ⟨⟨(k + 1, mont (l.getD k 0 * m.getD k 0 % pf)), hkl⟩, by dsimp only; omega, ha.subS ⟨rfl, rfl, rfl, rfl, rfl, rfl, trivial⟩, hw.pick [0, 1] (by simp)⟩⟩
  · refine HL.val ((Val.lss rfl rfl).as (congrArg Value.bool ((lssN k l.length).trans (decide_eq_false hkl)))) (by decide) ?_
    refine HL.nil ?_
    refine HQ.next ?_
    refine HC.seq ?_
    refine HC.no rfl ?_
    refine HC.exit ?_
    refine HQ.thenExit ?_
    refine HQ.thenExit ?_
    refine HQ.blockExit ?_
    refine HQ.next ?_
    refine HC.ret ?_
    obtain rfl : k = l.length := by omega
    exact HQ.retc 0 rfl rfl rfl Tryd.underlying81 rfl (by kernel_rfl) (pure_end rfl)

set_option maxRecDepth 100000 in
theorem iDot_good {l : List Nat} {ad : Option Addr} {b o c : Nat} {m : List Nat} {ad2 : Option Addr} {b2 o2 c2 : Nat} {w : World} (hg : GR w) (hs : SlA (byA 16) 16 w ad b o l) (hp : AllLt l) (hl : l.length ≤ 100000) (hs2 : SlA (byA 16) 16 w ad2 b2 o2 m) (hp2 : AllLt m) (hl2 : m.length ≤ 100000) (hlm : l.length = m.length) : Calls Tryd.prog 58 #[.slice ad l.length c, .slice ad2 m.length c2] w fun e w' => e = .returned (.tuple #[byV 16 (dotK l m l.length), .bool true]) ∧ Below w.heap.size w w' := by
  refine calls_H (args := [.slice ad l.length c, .slice ad2 m.length c2]) (noD) [] Tryd.func58 rfl (m := 38) rfl rfl (hold_nil _ _) ?_
  refine HC.seq ?_
  refine HC.region ?_
  refine HL.new (New.alloc al30) (by decide) ?_
  intro b1 hb1
  refine HL.val (Val.assign rfl) (by decide) ?_
  refine HL.nil ?_
  refine HQ.next ?_
  refine HC.seq ?_
  refine HC.region ?_
  refine HL.val (Val.move rfl) (by decide) ?_
  refine HL.fam (FamV.call (R := fun r => True) (ob := fun r => .cells (flat fpC l) 81 (0, 0)) (pv := fun r => .tuple #[.slice (some ⟨r.1, 0, none⟩) l.length l.length, .bool true]) en81 (fun w hw => list_good (hg.sn hw.sn rfl) (hs.sn szBy hw.sn rfl) hp hl) rfl) (fun _ h => by cases h) (by decide) ?_
  intro b2 c2 q2 r2 hb2
  dsimp only
  refine HL.val (Val.move rfl) (by decide) ?_
  refine HL.val (Val.extract rfl rfl) (by decide) ?_
  refine HL.val (Val.extract rfl rfl) (by decide) ?_
  refine HL.val (Val.assign rfl) (by decide) ?_
  refine HL.val (Val.assign rfl) (by decide) ?_
  refine HL.nil ?_
  refine HQ.next ?_
  refine HC.seq ?_
  refine HC.region ?_
  refine HL.val (Val.move rfl) (by decide) ?_
  refine HL.fam (FamV.call (R := fun r => True) (ob := fun r => .cells (flat fpC m) 81 (0, 0)) (pv := fun r => .tuple #[.slice (some ⟨r.1, 0, none⟩) m.length m.length, .bool true]) en81 (fun w hw => list_good (hg.sn hw.sn rfl) (hs2.sn szBy hw.sn rfl) hp2 hl2) rfl) (fun _ h => by cases h) (by decide) ?_
  intro b3 c3 q3 r3 hb3
  dsimp only
  refine HL.val (Val.move rfl) (by decide) ?_
  refine HL.val (Val.extract rfl rfl) (by decide) ?_
  refine HL.val (Val.extract rfl rfl) (by decide) ?_
  refine HL.val (Val.assign rfl) (by decide) ?_
  refine HL.val (Val.assign rfl) (by decide) ?_
  refine HL.nil ?_
  refine HQ.next ?_
  refine HC.seq ?_
  refine HC.seq ?_
  refine HC.region ?_
  refine HL.val (Val.move rfl) (by decide) ?_
  refine HL.val (Val.not rfl) (by decide) ?_
  refine HL.val (Val.move rfl) (by decide) ?_
  refine HL.valg rfl (Val.move rfl) (by decide) ?_
  refine HL.valg rfl (Val.not rfl) (by decide) ?_
  refine HL.val (Val.pickF rfl rfl) (by decide) ?_
  refine HL.val (Val.move rfl) (by decide) ?_
  refine HL.valg rfl (Val.move rfl) (by decide) ?_
  refine HL.valg rfl (Val.lenS rfl rfl Tryd.underlying47) (by decide) ?_
  refine HL.valg rfl (Val.move rfl) (by decide) ?_
  refine HL.valg rfl (Val.lenS rfl rfl Tryd.underlying47) (by decide) ?_
  refine HL.valg rfl ((Val.neqI rfl rfl).as (congrArg Value.bool (neqL hlm))) (by decide) ?_
  refine HL.val (Val.pickF rfl rfl) (by decide) ?_
  refine HL.nil ?_
  refine HQ.next ?_
  refine HC.no rfl ?_
  refine HC.skip ?_
  refine HQ.next ?_
  refine HC.seq ?_
  refine HC.region ?_
  refine HL.val (Val.move rfl) (by decide) ?_
  refine HL.val (Val.move rfl) (by decide) ?_
  refine HL.val (Val.calls en97 (fun w hw => dot_any (SlA.of_row szE (hw.at (i := 1) rfl)) hp hl (SlA.of_row szE (hw.at (i := 0) rfl)) hp2 hlm) rfl) (by decide) ?_
  refine HL.val (Val.call en69 (told_p ((dotK l m l.length)) (dotK_lt _ _ _)) rfl) (by decide) ?_
  refine HL.put 2 rfl (Put.row rfl rfl (by kernel_rfl) (szB _ _ _) (oneB _ _)) (.inl hb1) ?_
  simp only [List.set_cons_zero, List.set_cons_succ]
  refine HL.val (Val.assign rfl) (by decide) ?_
  refine HL.nil ?_
  refine HQ.next ?_
  refine HC.ret ?_
  exact HQ.retct 2 rfl rfl rfl rfl Tryd.underlying30 rfl (by kernel_rfl) (pure_end rfl)

set_option maxRecDepth 100000 in
theorem sdot_any {l m : List Nat} {ad ad2 : Option Addr} {b o c b2 o2 c2 : Nat} {w : World} (hs : SlA wA 2 w ad b o l) (hp : AllLt l) (hl : l.length ≤ 100000) (hs2 : SlA wA 2 w ad2 b2 o2 m) (hp2 : AllLt m) (hlm : l.length = m.length) :
    Calls Tryd.prog 59 #[.agg fA, .slice ad l.length c, .slice ad2 m.length c2] w fun e w' => e = .returned (.agg (wA (dotK l m l.length))) ∧ Below w.heap.size w w' := by
  refine calls_H (args := [.agg fA, .slice ad l.length c, .slice ad2 m.length c2]) (noD) [] Tryd.func59 rfl (m := 30) rfl rfl (hold_nil _ _) ?_
  refine HC.seq ?_
  refine HC.region ?_
  refine HL.new (New.box rfl) (by decide) ?_
  intro b1 hb1
  refine HL.new (New.alloc al25) (by decide) ?_
  intro b2 hb2
  refine HL.nil ?_
  refine HQ.next ?_
  refine HC.seq ?_
  refine HC.region ?_
  refine HL.val (Val.build rfl built_w0) (by decide) ?_
  refine HL.new (New.alloc al25) (by decide) ?_
  intro b3 hb3
  refine HL.put 0 rfl (Put.row rfl rfl (by kernel_rfl) rfl (wA_one _)) (.inl hb3) ?_
  simp only [List.set_cons_zero]
  refine HL.nil ?_
  refine HQ.next ?_
  refine HC.seq ?_
  refine HC.seq ?_
  refine HC.region ?_
  refine HL.val (Val.move rfl) (by decide) ?_
  refine HL.val (Val.lenS rfl rfl Tryd.underlying51) (by decide) ?_
  refine HL.val (Val.move rfl) (by decide) ?_
  refine HL.nil ?_
  refine HQ.next ?_
  refine HC.block ?_
  refine HC.loop (ι := {p : Nat // p ≤ l.length}) (fun p => l.length - p.1) (fun p => [(12, .int .i64 (p.1 : Int)), (11, .int .i64 (l.length : Int)), (1, .slice ad l.length c), (2, .slice ad2 m.length c2), (7, .pointer (some ⟨b3, 0, none⟩)), (3, .pointer (some ⟨b1, 0, none⟩)), (6, .pointer (some ⟨b2, 0, none⟩))]) (fun p => [(b3, .cells (wA (dotK l m p.1)) 25 (0, 0)), (b1, .cells fA 27 (0, 0)), (b2, .cells (wA 0) 25 (0, 0))]) ⟨0, Nat.zero_le _⟩ (fun ac wc ha hw => ⟨ha.subS ⟨rfl, rfl, rfl, rfl, rfl, rfl, rfl, trivial⟩, hw.pick [0, 2, 1] (by simp)⟩) ?_
  rintro ⟨k, hk⟩
  dsimp only
  refine HC.seq ?_
  refine HC.region ?_
  by_cases hkl : k < l.length
  · refine HL.val ((Val.lss rfl rfl).as (congrArg Value.bool ((lssN k l.length).trans (decide_eq_true hkl)))) (by decide) ?_
    refine HL.nil ?_
    refine HQ.next ?_
    refine HC.seq ?_
    refine HC.yes rfl ?_
    refine HC.skip ?_
    refine HQ.next ?_
    refine HC.seq ?_
    refine HC.block ?_
    refine HC.seq ?_
    refine HC.region ?_
    refine HL.val (Val.move rfl) (by decide) ?_
    refine HL.val (Val.assign rfl) (by decide) ?_
    refine HL.nil ?_
    refine HQ.next ?_
    refine HC.draw0 13 (by kernel_rfl) (by kernel_rfl) ?_
    simp only [List.take, List.drop]
    refine HV.val (Val.load_row rfl (fun w hw => hw.at (i := 1) rfl) Tryd.underlying27 rfl (by kernel_rfl)) (by decide) ?_
    refine HV.val (Val.load_row rfl (fun w hw => hw.at (i := 0) rfl) Tryd.underlying25 rfl (by kernel_rfl)) (by decide) ?_
    refine HV.val (Val.load_row rfl (fun w hw => hw.at (i := 1) rfl) Tryd.underlying27 rfl (by kernel_rfl)) (by decide) ?_
    refine HV.val (Val.move rfl) (by decide) ?_
    refine HV.val (Val.move rfl) (by decide) ?_
    refine HV.val (Val.ixSliceA (s := 2) (i := k) (o + k * 2) rfl (hs.at hkl) rfl Tryd.underlying51 (by kernel_rfl) hkl rfl) (by decide) ?_
    refine HV.val (Val.load_cells (wA (l.getD k 0)) rfl (fun w hw => (hs.sn szWA hw.sn rfl).row szWA hkl) Tryd.underlying25 rfl (by kernel_rfl)) (by decide) ?_
    refine HV.val (Val.move rfl) (by decide) ?_
    refine HV.val (Val.move rfl) (by decide) ?_
    refine HV.val (Val.ixSliceA (s := 2) (i := k) (o2 + k * 2) rfl (hs2.at (hlm ▸ hkl)) rfl Tryd.underlying51 (by kernel_rfl) (hlm ▸ hkl) rfl) (by decide) ?_
    refine HV.val (Val.load_cells (wA (m.getD k 0)) rfl (fun w hw => (hs2.sn szWA hw.sn rfl).row szWA (hlm ▸ hkl)) Tryd.underlying25 rfl (by kernel_rfl)) (by decide) ?_
    refine HV.val (Val.call en45 (smul_p ((l.getD k 0)) ((m.getD k 0)) (hp.any k) (lt_b (hp2.any k))) rfl) (by decide) ?_
    refine HV.val (Val.call en41 (sadd_p ((dotK l m k)) ((((l.getD k 0)) * ((m.getD k 0)) % pf)) (dotK_lt _ _ _) (Nat.mod_lt _ pf_pos)) rfl) (by decide) ?_
    refine HV.tail0 ?_
    refine HL.put 0 rfl (Put.row rfl rfl (by kernel_rfl) rfl (wA_one _)) (.inl hb3) ?_
    simp only [List.set_cons_zero]
    refine HL.nil ?_
    refine HQ.blockNormal ?_
    refine HQ.next ?_
    refine HC.region ?_
    refine HL.val ((Val.addI rfl rfl).as (congrArg (Value.int .i64) (wrap1 k (by omega)))) (by decide) ?_
    refine HL.val (Val.move rfl) (by decide) ?_
    refine HL.nil ?_
    exact ⟨fun ac wc ha hw => ⟨⟨k + 1, hkl⟩, by dsimp only; omega, ha.subS ⟨rfl, rfl, rfl, rfl, rfl, rfl, rfl, trivial⟩, hw.pick [0, 1, 2] (by simp)⟩⟩
  · refine HL.val ((Val.lss rfl rfl).as (congrArg Value.bool ((lssN k l.length).trans (decide_eq_false hkl)))) (by decide) ?_
    refine HL.nil ?_
    refine HQ.next ?_
    refine HC.seq ?_
    refine HC.no rfl ?_
    refine HC.exit ?_
    refine HQ.thenExit ?_
    refine HQ.thenExit ?_
    refine HQ.blockExit ?_
    refine HQ.next ?_
    refine HC.seq ?_
    refine HC.region ?_
    refine HL.val (Val.load_row rfl (fun w hw => hw.at (i := 0) rfl) Tryd.underlying25 rfl (by kernel_rfl)) (by decide) ?_
    refine HL.put 2 rfl (Put.row rfl rfl (by kernel_rfl) rfl (wA_one _)) (.inl hb2) ?_
    simp only [List.set_cons_zero, List.set_cons_succ]
    refine HL.nil ?_
    refine HQ.next ?_
    refine HC.ret ?_
    obtain rfl : k = l.length := by omega
    exact HQ.retc 2 rfl rfl rfl Tryd.underlying25 rfl (by kernel_rfl) (pure_end rfl)
end Go.Proofs.YtgdfdkpkhjbibaaDoor
