/-
  A part of a list turned round; the transform back, in place (written by genpm.py).
-/
import Derived.Test.YtgdfdkpkhjbibaaDoorNu
import Derived.Test.YtgdfdkpkhjbibaaDoorHJ
namespace Go.Proofs.YtgdfdkpkhjbibaaDoor
open Go.RowKit
/-- A part of a list behind i swaps. -/
def rvT (F : Nat → Nat) (q L i d : Nat) : Nat := if d < i ∨ L ≤ d + i then F (q + (L - 1 - d)) else F (q + d)
theorem rvT_zero (F : Nat → Nat) {q L d : Nat} (h : d < L) : F (q + d) = rvT F q L 0 d := by
  unfold rvT; rw [if_neg (by omega)]
theorem rvT_step (F : Nat → Nat) {q L i : Nat} (h : 2 * i + 1 < L) (e : Nat) (he : e < L) : upd (upd (rvT F q L i) i (rvT F q L i (L - 1 - i))) (L - 1 - i) (rvT F q L i i) e = rvT F q L (i + 1) e := by
  have h1 : rvT F q L i i = F (q + i) := by unfold rvT; rw [if_neg (by omega)]
  have h2 : rvT F q L i (L - 1 - i) = F (q + (L - 1 - i)) := by unfold rvT; rw [if_neg (by omega)]
  rw [h1, h2]
  by_cases e2 : e = L - 1 - i
  · subst e2
    rw [upd_eq]
    unfold rvT
    rw [if_pos (by omega), show L - 1 - (L - 1 - i) = i by omega]
  · rw [upd_ne _ _ e2]
    by_cases e1 : e = i
    · subst e1
      rw [upd_eq]
      unfold rvT
      rw [if_pos (by omega)]
    · rw [upd_ne _ _ e1]
      unfold rvT
      by_cases hc : e < i ∨ L ≤ e + i
      · rw [if_pos hc, if_pos (by omega)]
      · rw [if_neg hc, if_neg (by omega)]
theorem rvT_end (F : Nat → Nat) {q L i : Nat} (h : ¬ 2 * i + 1 < L) (_hi : 2 * i ≤ L) (e : Nat) (he : e < L) : rvT F q L i e = F (q + (L - 1 - e)) := by
  unfold rvT
  by_cases hc : e < i ∨ L ≤ e + i
  · rw [if_pos hc]
  · rw [if_neg hc, show L - 1 - e = e by omega]
theorem subJ {L : Nat} (h : L < 4611686018427387904) : IntKind.i64.wrap ((L : Int) - 1) = (L : Int) - 1 - ((0 : Nat) : Int) := by
  rw [IntKind.wrap_i64]; omega
theorem ltJ (L i : Nat) : decide ((i : Int) < (L : Int) - 1 - (i : Int)) = decide (2 * i + 1 < L) := by
  rw [Bool.eq_iff_iff]; simp only [decide_eq_true_eq]; omega
theorem nextJ {L i : Nat} (h : 2 * i + 1 < L) (hL : L < 4611686018427387904) : IntKind.i64.wrap (((L - 1 - i : Nat) : Int) - 1) = (L : Int) - 1 - ((i + 1 : Nat) : Int) := by
  rw [IntKind.wrap_i64]; omega
theorem Sn.trans {D : Nat → Bool} {w0 w w' : World} (h : Sn D w0 w) (h' : Sn D w w') : Sn D w0 w' := ⟨h'.os.trans h.os, h'.tape.trans h.tape, h'.output.trans h.output, Nat.le_trans h.size h'.size, fun k hk hd => (h'.block k (Nat.lt_of_lt_of_le hk h.size) hd).trans (h.block k hk hd)⟩
/-- The transform, then the places behind the first turned round: the transform back. -/
theorem inv_ls (F T : Nat → Nat) (o k M : Nat) : lsT (nst F T o (2 ^ k)) (fun d => nst F T o (2 ^ k) (o + 1 + (2 ^ k - 1 - 1 - d))) (o + 1) (2 ^ k - 1) M = lsT F (fun e => T ((2 ^ k - e) % 2 ^ k)) o (2 ^ k) M := List.map_congr_left fun e _ => by
  have hp := Nat.two_pow_pos k
  generalize 2 ^ k = N at *
  unfold nst
  by_cases h1 : o + 1 ≤ e ∧ e < o + 1 + (N - 1)
  · rw [if_pos h1, if_pos (show o ≤ e ∧ e < o + N by omega)]
    dsimp only
    rw [if_pos (by omega)]
    congr 1
    rw [Nat.mod_eq_of_lt (by omega)]; omega
  · rw [if_neg h1]
    by_cases h2 : o ≤ e ∧ e < o + N
    · rw [if_pos h2, if_pos h2]
      congr 1
      rw [show e - o = 0 by omega, Nat.sub_zero, Nat.mod_self]
    · rw [if_neg h2, if_neg h2]

set_option maxRecDepth 100000 in
theorem rev_any {F : Nat → Nat} {q q0 L M b c : Nat} {w : World} (hq : 0 < L → q0 = q * 2) (hM : q + L ≤ M) (hL : L ≤ 100000) (h0 : w.heap[b]? = some (.cells (flat fpC ((List.range M).map F)) 81 (0, 0))) :
    Calls Tryd.prog 121 #[.slice (some ⟨b, q0, none⟩) L c] w fun e w' => e = .returned (.tuple #[]) ∧ Hold (fun k => k == b) w [(b, .cells (flat fpC (lsT F (fun d => F (q + (L - 1 - d))) q L M)) 81 (0, 0))] w' := by
  refine calls_H (args := [.slice (some ⟨b, q0, none⟩) L c]) (fun k => k == b) [(b, .cells (flat fpC ((List.range M).map F)) 81 (0, 0))] Tryd.func121 rfl (m := 28) rfl rfl (hold_one h0) ?_
  refine HC.seq ?_
  refine HC.region ?_
  refine HL.val (Val.move rfl) (by decide) ?_
  refine HL.val (Val.lenS rfl rfl Tryd.underlying105) (by decide) ?_
  refine HL.val ((Val.subI rfl rfl).as (congrArg (Value.int .i64) (subJ (L := L) (by omega)))) (by decide) ?_
  refine HL.val (Val.assign rfl) (by decide) ?_
  refine HL.val (Val.assign rfl) (by decide) ?_
  refine HL.nil ?_
  refine HQ.next ?_
  refine HC.block ?_
  refine HC.loop (ι := {p : Nat // 2 * p ≤ L}) (fun p => L - p.1) (fun p => [(0, .slice (some ⟨b, q0, none⟩) L c), (2, .int .i64 (p.1 : Int)), (3, .int .i64 ((L : Int) - 1 - (p.1 : Int)))]) (fun p => [(b, .cells (flat fpC (lsT F (rvT F q L p.1) q L M)) 81 (0, 0))]) ⟨0, Nat.zero_le _⟩ (fun ac wc ha hw => ⟨ha.subS ⟨rfl, rfl, rfl, trivial⟩, by have h := hw.pick [0] (by simp); dsimp only; rw [← lsT_congr (T := fun e => F (q + e)) (fun e he => rvT_zero F he), lsT_id]; exact h⟩) ?_
  rintro ⟨i, hi⟩
  dsimp only
  refine HC.seq ?_
  refine HC.seq ?_
  refine HC.region ?_
  refine HL.val (Val.move rfl) (by decide) ?_
  refine HL.val (Val.move rfl) (by decide) ?_
  by_cases hij : 2 * i + 1 < L
  · refine HL.val ((Val.lss rfl rfl).as (congrArg Value.bool ((ltJ L i).trans (decide_eq_true hij)))) (by decide) ?_
    refine HL.nil ?_
    refine HQ.next ?_
    refine HC.yes rfl ?_
    refine HC.skip ?_
    refine HQ.next ?_
    refine HC.seq ?_
    refine HC.block ?_
    obtain rfl : q0 = q * 2 := hq (by omega)
    rw [show (L : Int) - 1 - (i : Int) = ((L - 1 - i : Nat) : Int) by omega]
    refine HC.drawA (by kernel_rfl) ?_
    refine HA.takeMove (i := 0) rfl (by kernel_rfl) rfl (by decide) ?_
    refine HA.takeMove (i := 1) rfl (by kernel_rfl) rfl (by decide) ?_
    refine HA.takeMove (i := 2) rfl (by kernel_rfl) rfl (by decide) ?_
    refine HA.takeMove (i := 3) rfl (by kernel_rfl) rfl (by decide) ?_
    refine HA.takeMove (i := 4) rfl (by kernel_rfl) rfl (by decide) ?_
    refine HA.takeMove (i := 5) rfl (by kernel_rfl) rfl (by decide) ?_
    refine HA.takeMove (i := 8) rfl (by kernel_rfl) rfl (by decide) ?_
    refine HA.takeMove (i := 9) rfl (by kernel_rfl) rfl (by decide) ?_
    refine HA.takeIx (s := 2) (i := 6) ((q + ((L - 1 - i))) * 2) rfl (by kernel_rfl) rfl rfl Tryd.underlying105 (by kernel_rfl) (by omega) (by omega) (by decide) ?_
    refine HA.takeIx (s := 2) (i := 10) ((q + i) * 2) rfl (by kernel_rfl) rfl rfl Tryd.underlying105 (by kernel_rfl) (by omega) (by omega) (by decide) ?_
    refine HA.two (i := 7) (j := 11) (by kernel_rfl) rfl rfl ?_ ?_
    · refine HL.val (Val.load_cells (fpC ((rvT F q L i) ((L - 1 - i)))) rfl (fun w hw => RawAt.cells (locT (T := (rvT F q L i)) 0 rfl (by omega) hM w hw)) Tryd.underlying81 rfl (by kernel_rfl)) (by decide) ?_
      refine HL.thenA ?_
      refine HA.one (i := 11) (by kernel_rfl) rfl ?_
      refine HL.val (Val.load_cells (fpC ((rvT F q L i) i)) rfl (fun w hw => RawAt.cells (locT (T := (rvT F q L i)) 0 rfl (by omega) hM w hw)) Tryd.underlying81 rfl (by kernel_rfl)) (by decide) ?_
      refine HL.thenA ?_
      refine HA.seq 12 (l := List.drop 12 _) (fun j => by rw [List.getElem?_drop, List.getElem?_toArray]) (by kernel_rfl) (by kernel_rfl) ?_
      simp only [List.drop]
      refine HL.val (Val.ixSlice (s := 2) (i := i) ((q + i) * 2) rfl rfl Tryd.underlying105 (by kernel_rfl) (by omega) (by omega)) (by decide) ?_
      refine HL.put 0 rfl (Put.T rfl rfl (by kernel_rfl) (by omega) hM) (ownB b) ?_
      simp only [List.set_cons_zero]
      refine HL.val (Val.ixSlice (s := 2) (i := (L - 1 - i)) ((q + ((L - 1 - i))) * 2) rfl rfl Tryd.underlying105 (by kernel_rfl) (by omega) (by omega)) (by decide) ?_
      refine HL.put 0 rfl (Put.T rfl rfl (by kernel_rfl) (by omega) hM) (ownB b) ?_
      simp only [List.set_cons_zero]
      refine HL.nil ?_
      refine HQ.noP ?_
      refine HQ.blockNormal ?_
      refine HQ.next ?_
      refine HC.region ?_
      refine HL.val (Val.move rfl) (by decide) ?_
      refine HL.val ((Val.addI rfl rfl).as (congrArg (Value.int .i64) (wrap1 i (by omega)))) (by decide) ?_
      refine HL.val (Val.move rfl) (by decide) ?_
      refine HL.val ((Val.subI rfl rfl).as (congrArg (Value.int .i64) (nextJ hij (by omega)))) (by decide) ?_
      refine HL.val (Val.assign rfl) (by decide) ?_
      refine HL.val (Val.assign rfl) (by decide) ?_
      refine HL.nil ?_
      exact ⟨fun ac wc ha hw => ⟨⟨i + 1, by omega⟩, by dsimp only; omega, ha.subS ⟨rfl, rfl, rfl, trivial⟩, by have h := hw.pick [0] (by simp); simp only [List.filterMap_cons, List.filterMap_nil, List.getElem?_cons_zero] at h; rw [lsT_congr (T := (upd ((upd ((rvT F q L i)) i (((rvT F q L i) ((L - 1 - i)))))) ((L - 1 - i)) (((rvT F q L i) i)))) (T' := rvT F q L (i + 1)) (rvT_step F hij)] at h; exact h⟩⟩
    · refine HL.val (Val.load_cells (fpC ((rvT F q L i) i)) rfl (fun w hw => RawAt.cells (locT (T := (rvT F q L i)) 0 rfl (by omega) hM w hw)) Tryd.underlying81 rfl (by kernel_rfl)) (by decide) ?_
      refine HL.thenA ?_
      refine HA.one (i := 7) (by kernel_rfl) rfl ?_
      refine HL.val (Val.load_cells (fpC ((rvT F q L i) ((L - 1 - i)))) rfl (fun w hw => RawAt.cells (locT (T := (rvT F q L i)) 0 rfl (by omega) hM w hw)) Tryd.underlying81 rfl (by kernel_rfl)) (by decide) ?_
      refine HL.thenA ?_
      refine HA.seq 12 (l := List.drop 12 _) (fun j => by rw [List.getElem?_drop, List.getElem?_toArray]) (by kernel_rfl) (by kernel_rfl) ?_
      simp only [List.drop]
      refine HL.val (Val.ixSlice (s := 2) (i := i) ((q + i) * 2) rfl rfl Tryd.underlying105 (by kernel_rfl) (by omega) (by omega)) (by decide) ?_
      refine HL.put 0 rfl (Put.T rfl rfl (by kernel_rfl) (by omega) hM) (ownB b) ?_
      simp only [List.set_cons_zero]
      refine HL.val (Val.ixSlice (s := 2) (i := (L - 1 - i)) ((q + ((L - 1 - i))) * 2) rfl rfl Tryd.underlying105 (by kernel_rfl) (by omega) (by omega)) (by decide) ?_
      refine HL.put 0 rfl (Put.T rfl rfl (by kernel_rfl) (by omega) hM) (ownB b) ?_
      simp only [List.set_cons_zero]
      refine HL.nil ?_
      refine HQ.noP ?_
      refine HQ.blockNormal ?_
      refine HQ.next ?_
      refine HC.region ?_
      refine HL.val (Val.move rfl) (by decide) ?_
      refine HL.val ((Val.addI rfl rfl).as (congrArg (Value.int .i64) (wrap1 i (by omega)))) (by decide) ?_
      refine HL.val (Val.move rfl) (by decide) ?_
      refine HL.val ((Val.subI rfl rfl).as (congrArg (Value.int .i64) (nextJ hij (by omega)))) (by decide) ?_
      refine HL.val (Val.assign rfl) (by decide) ?_
      refine HL.val (Val.assign rfl) (by decide) ?_
      refine HL.nil ?_
      exact ⟨fun ac wc ha hw => ⟨⟨i + 1, by omega⟩, by dsimp only; omega, ha.subS ⟨rfl, rfl, rfl, trivial⟩, by have h := hw.pick [0] (by simp); simp only [List.filterMap_cons, List.filterMap_nil, List.getElem?_cons_zero] at h; rw [lsT_congr (T := (upd ((upd ((rvT F q L i)) i (((rvT F q L i) ((L - 1 - i)))))) ((L - 1 - i)) (((rvT F q L i) i)))) (T' := rvT F q L (i + 1)) (rvT_step F hij)] at h; exact h⟩⟩
  · refine HL.val ((Val.lss rfl rfl).as (congrArg Value.bool ((ltJ L i).trans (decide_eq_false hij)))) (by decide) ?_
    refine HL.nil ?_
    refine HQ.next ?_
    refine HC.no rfl ?_
    refine HC.exit ?_
    refine HQ.thenExit ?_
    refine HQ.thenExit ?_
    refine HQ.blockExit ?_
    exact HQ.end0 rfl (fun w hw => ⟨rfl, by have h := hw.pick [0] (by simp); simp only [List.filterMap_cons, List.filterMap_nil, List.getElem?_cons_zero] at h; rw [lsT_congr (rvT_end F hij hi)] at h; exact h⟩)

set_option maxRecDepth 100000 in
theorem invntt_any {F : Nat → Nat} {x : List Nat} {k o M b c : Nat} {adx : Option Addr} {bx ox cx : Nat} {w : World} (hk : k < 7) (hM : o + 2 ^ k ≤ M) (hc : 2 ^ k ≤ c) (ht : RT w) (hd : DB w) (h0 : w.heap[b]? = some (.cells (flat fpC ((List.range M).map F)) 81 (0, 0))) (hbT : 1 ≠ b) (hbD : 11 ≠ b) (hp : AllLt x) (hl : x.length ≤ 100000)
    (hz : ∀ e, e < 2 ^ k → x.length ≤ rev k e → F (o + e) = 0) (hat : 0 < x.length → adx = some ⟨bx, ox, none⟩) (hv : ∀ w' T, Sn (fun k => k == b) w w' → w'.heap[b]? = some (.cells (flat fpC (lsT F T o (2 ^ k) M)) 81 (0, 0)) → ∀ j, j < x.length → FpAt w' bx (ox + j * 2) (x.getD j 0)) :
    Calls Tryd.prog 99 #[.slice (some ⟨b, o * 2, none⟩) (2 ^ k) c, .slice adx x.length cx, .int .u64 ((2 ^ k : Nat) : Int)] w fun e w' => e = .returned (.tuple #[]) ∧ Hold (fun k => k == b) w [(b, .cells (flat fpC (lsT F (fun e => (fun e => evN (2 ^ k) (gd x) (rt k ^ e) % pf) ((2 ^ k - e) % 2 ^ k)) o (2 ^ k) M)) 81 (0, 0))] w' := by
  have hpk := p2_le hk (Nat.le_refl k)
  have hpp := Nat.two_pow_pos k
  refine calls_H (args := [.slice (some ⟨b, o * 2, none⟩) (2 ^ k) c, .slice adx x.length cx, .int .u64 ((2 ^ k : Nat) : Int)]) (fun k => k == b) [(b, .cells (flat fpC ((List.range M).map F)) 81 (0, 0))] Tryd.func99 rfl (m := 13) rfl rfl (hold_one h0) ?_
  refine HC.seq ?_
  refine HC.region ?_
  refine HL.val (Val.move rfl) (by decide) ?_
  refine HL.val (Val.move rfl) (by decide) ?_
  refine HL.val (Val.move rfl) (by decide) ?_
  refine HL.callD en100 rfl (fun w1 hw => lift_one hw (i := 0) rfl (ownB b) (ntt_any hk hM (ht.sn hw.sn (beq_false_of_ne hbT)) (hd.sn hw.sn (beq_false_of_ne hbD)) (hw.at (i := 0) rfl) hbT hbD hp hl hz hat (fun w2 T hs hb => hv w2 T (hw.sn.trans hs) hb))) (by decide) ?_
  simp only [List.set_cons_zero]
  refine HL.nil ?_
  refine HQ.next ?_
  refine HC.region ?_
  refine HL.val (Val.move rfl) (by decide) ?_
  refine HL.val (Val.sliceSFrom (s := 2) (h := 1) (if c = 1 then o * 2 else o * 2 + 1 * 2) rfl rfl Tryd.underlying105 (by kernel_rfl) (Nat.two_pow_pos k) rfl) (by decide) ?_
  refine HL.callD en121 rfl (fun w1 hw => lift_one hw (i := 0) rfl (ownB b) (rev_any (q := o + 1) (L := 2 ^ k - 1) (M := M) (F := nst F (fun e => evN (2 ^ k) (gd x) (rt k ^ e) % pf) o (2 ^ k)) (fun hL => by rw [if_neg (by omega), ← Nat.add_mul]) (by omega) (by omega) (hw.at (i := 0) rfl))) (by decide) ?_
  simp only [List.set_cons_zero]
  refine HL.nil ?_
  exact HQ.end0 rfl (fun w hw => ⟨rfl, by have h := hw.pick [0] (by simp); simp only [List.filterMap_cons, List.filterMap_nil, List.getElem?_cons_zero] at h; rw [inv_ls] at h; exact h⟩)
end Go.Proofs.YtgdfdkpkhjbibaaDoor
