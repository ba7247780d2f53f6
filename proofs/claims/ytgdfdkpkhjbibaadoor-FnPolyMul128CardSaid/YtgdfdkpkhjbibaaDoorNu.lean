/-
  The transform of a list (written by gennu.py).
-/
import Derived.Test.YtgdfdkpkhjbibaaDoorNt
namespace Go.Proofs.YtgdfdkpkhjbibaaDoor
open Go.RowKit
theorem lsT_all (F T : Nat → Nat) (m : Nat) : lsT F T 0 m m = (List.range m).map T := List.map_congr_left fun d hd => by
  have := List.mem_range.1 hd
  unfold nst
  rw [if_pos (by omega), Nat.sub_zero]
/-- A list transformed. -/
def nttL (l : List Nat) (k : Nat) : List Nat := (List.range (2 ^ k)).map fun e => evN (2 ^ k) (gd l) (rt k ^ e) % pf
theorem nttL_len (l : List Nat) (k : Nat) : (nttL l k).length = 2 ^ k := by simp [nttL]
theorem nttL_lt (l : List Nat) (k : Nat) : AllLt (nttL l k) := allLt_mapR fun _ _ => Nat.mod_lt _ pf_pos
theorem pow_and : ∀ k, k < 7 → bits .and .i64 ((2 ^ k : Nat) : Int) ((2 ^ k - 1 : Nat) : Int) = 0 := by decide +kernel
theorem rep_map (m : Nat) : List.replicate m 0 = (List.range m).map (fun _ => 0) := (mapR_rep (f := fun _ => 0) m (fun _ => rfl)).symm
theorem pow_up {q k : Nat} (hq : q ≤ k) (h : 2 ^ q < 2 ^ k) : q + 1 ≤ k := by
  rcases Nat.lt_or_ge q k with h1 | h1
  · exact h1
  · obtain rfl : q = k := by omega
    omega
theorem pow_is {q k : Nat} (hq : q ≤ k) (h : ¬ 2 ^ q < 2 ^ k) : q = k := by
  rcases Nat.lt_or_ge q k with h1 | h1
  · exact absurd (Nat.pow_lt_pow_right (by decide) h1) h
  · omega
theorem dbl {q : Nat} (h : 2 ^ q < 4294967296) : IntKind.i64.wrap (2 * ((2 ^ q : Nat) : Int)) = ((2 ^ (q + 1) : Nat) : Int) := by
  rw [IntKind.wrap_i64, Nat.pow_succ]
  generalize 2 ^ q = z at *
  omega

theorem ntt0_any {l : List Nat} {k b c b' c' T' : Nat} {w : World} (hk : k < 7) (hlen : l.length = 2 ^ k) (ht : RT w) (hd : DB w) (h0 : w.heap[b]? = some (.cells (flat fpC (List.replicate (2 ^ k) 0)) 81 (0, 0))) (hbT : 1 ≠ b) (hbD : 11 ≠ b) (hp : AllLt l) (h1 : w.heap[b']? = some (.cells (flat fpC l) T' (0, 0))) (hne : b' ≠ b) :
    Calls Tryd.prog 100 #[.slice (some ⟨b, 0, none⟩) (2 ^ k) c, .slice (some ⟨b', 0, none⟩) (2 ^ k) c', .int .u64 ((2 ^ k : Nat) : Int)] w fun e w' => e = .returned (.tuple #[]) ∧ Hold (fun k => k == b) w [(b, .cells (flat fpC (nttL l k)) 81 (0, 0))] w' := by
  have hpk := p2_le hk (Nat.le_refl k)
  rw [rep_map] at h0
  have h := ntt_any (F := fun _ => 0) (x := l) (k := k) (o := 0) (M := 2 ^ k) (b := b) (c := c) (adx := some ⟨b', 0, none⟩) (bx := b') (ox := 0) (cx := c') hk (by omega) ht hd h0 hbT hbD hp (by omega)
    (fun e he h => absurd (rev_lt k e) (by omega)) (fun _ => rfl) (fun w' T hs hb j hj => sl_at ((SlA.of_row szE h1).sn szE hs (beq_false_of_ne hne)) hj)
  rw [hlen] at h
  simp only [lsT_all, Nat.zero_mul] at h
  exact h
theorem list_len {l : List Nat} {m : Nat} {ad : Option Addr} {b o c : Nat} {w : World} (hm : l.length = m) (hg : GR w) (hs : SlA (byA 16) 16 w ad b o l) (hp : AllLt l) (hl : m ≤ 100000) :
    Calls Tryd.prog 81 #[.slice ad m c] w fun e w' => ∃ r : Fam, True ∧ e = .returned (.tuple #[.slice (some ⟨r.1, 0, none⟩) m m, .bool true]) ∧ Below w.heap.size w w' ∧ w.heap.size ≤ r.1 ∧ w'.heap[r.1]? = some (.cells (flat fpC l) 81 (0, 0)) := by
  subst hm; exact list_good hg hs hp hl

theorem db_lt {w : World} (h : DB w) : 11 < w.heap.size := World.block_lt_of_cell? w ⟨11, 0, none⟩ (h 0 (by decide))
set_option maxRecDepth 100000 in
theorem intt_good {l : List Nat} {k : Nat} {ad : Option Addr} {b o c : Nat} {w : World} (hk : k < 7) (hlen : l.length = 2 ^ k) (hg : GR w) (ht : RT w) (hd : DB w) (hs : SlA (byA 16) 16 w ad b o l) (hp : AllLt l) :
    Calls Tryd.prog 63 #[.slice ad (2 ^ k) c, .bool false] w fun e w' => ∃ r : Fam, True ∧ e = .returned (.tuple #[.slice (some ⟨r.1, 0, none⟩) (2 ^ k) (2 ^ k), .bool true]) ∧ Below w.heap.size w w' ∧ w.heap.size ≤ r.1 ∧ w'.heap[r.1]? = some (.cells (flat (byA 16) (nttL l k)) 30 (0, 0)) := by
  have hpk := p2_le hk (Nat.le_refl k)
  have hpp := Nat.two_pow_pos k
  refine calls_H (args := [.slice ad (2 ^ k) c, .bool false]) (noD) [] Tryd.func63 rfl (m := 49) rfl rfl (hold_nil _ _) ?_
  refine HC.seq ?_
  refine HC.region ?_
  refine HL.val (Val.assign rfl) (by decide) ?_
  refine HL.val (Val.assign rfl) (by decide) ?_
  refine HL.nil ?_
  refine HQ.next ?_
  refine HC.seq ?_
  refine HC.region ?_
  refine HL.val (Val.move rfl) (by decide) ?_
  refine HL.fam (FamV.call (R := fun r => True) (ob := fun r => .cells (flat fpC l) 81 (0, 0)) (pv := fun r => .tuple #[.slice (some ⟨r.1, 0, none⟩) (2 ^ k) (2 ^ k), .bool true]) en81 (fun w hw => list_len hlen (hg.sn hw.sn rfl) (hs.sn szBy hw.sn rfl) hp (by omega)) rfl) (fun _ h => by cases h) (by decide) ?_
  intro b1 c1 q1 r1 hb1
  dsimp only
  refine HL.val (Val.move rfl) (by decide) ?_
  refine HL.val (Val.extract rfl rfl) (by decide) ?_
  refine HL.val (Val.extract rfl rfl) (by decide) ?_
  refine HL.val (Val.assign rfl) (by decide) ?_
  refine HL.val (Val.assign rfl) (by decide) ?_
  refine HL.nil ?_
  refine HQ.next ?_
  refine HC.seq ?_
  refine HC.region ?_
  refine HL.val (Val.move rfl) (by decide) ?_
  refine HL.val (Val.lenS rfl rfl Tryd.underlying47) (by decide) ?_
  refine HL.val (Val.assign rfl) (by decide) ?_
  refine HL.nil ?_
  refine HQ.next ?_
  refine HC.seq ?_
  refine HC.seq ?_
  refine HC.region ?_
  refine HL.val (Val.move rfl) (by decide) ?_
  refine HL.val (Val.not rfl) (by decide) ?_
  refine HL.val (Val.move rfl) (by decide) ?_
  refine HL.valg rfl (Val.move rfl) (by decide) ?_
  refine HL.valg rfl (((Val.eqlI rfl rfl).as (congrArg Value.bool (eqlN (2 ^ k) 0))).as (congrArg Value.bool (decide_eq_false (by omega)))) (by decide) ?_
  refine HL.val (Val.pickF rfl rfl) (by decide) ?_
  refine HL.val (Val.move rfl) (by decide) ?_
  refine HL.valg rfl (Val.move rfl) (by decide) ?_
  refine HL.valg rfl ((Val.gtr rfl rfl).as (congrArg Value.bool ((lssN 256 (2 ^ k)).trans (decide_eq_false (by omega))))) (by decide) ?_
  refine HL.val (Val.pickF rfl rfl) (by decide) ?_
  refine HL.val (Val.move rfl) (by decide) ?_
  refine HL.valg rfl (Val.move rfl) (by decide) ?_
  refine HL.valg rfl (Val.move rfl) (by decide) ?_
  refine HL.valg rfl ((Val.subI rfl rfl).as (congrArg (Value.int .i64) (sub1N (k := 2 ^ k) (by omega) (by omega)))) (by decide) ?_
  refine HL.valg rfl ((Val.andI rfl rfl).as (v := .int .i64 0) (congrArg (Value.int .i64) (pow_and k hk))) (by decide) ?_
  refine HL.valg rfl ((Val.neqI rfl rfl).as (congrArg Value.bool (show ((0 : Int) != 0) = false by decide))) (by decide) ?_
  refine HL.val (Val.pickF rfl rfl) (by decide) ?_
  refine HL.nil ?_
  refine HQ.next ?_
  refine HC.no rfl ?_
  refine HC.skip ?_
  refine HQ.next ?_
  refine HC.seq ?_
  refine HC.region ?_
  refine HL.val (Val.move rfl) (by decide) ?_
  refine HL.new (New.make (s := 2) (by' := 16) (z := .agg (rawC 0)) (2 ^ k) rfl rfl Tryd.underlying105 (by kernel_rfl) (by kernel_rfl) (by kernel_rfl) (by omega) (by omega) made_els) (by decide) ?_
  intro b2 hb2
  refine HL.val (Val.assign rfl) (by decide) ?_
  refine HL.nil ?_
  refine HQ.next ?_
  refine HC.seq ?_
  refine HC.seq ?_
  refine HC.region ?_
  refine HL.val (Val.move rfl) (by decide) ?_
  refine HL.nil ?_
  refine HQ.next ?_
  refine HC.no rfl ?_
  refine HC.region ?_
  refine HL.val (Val.move rfl) (by decide) ?_
  refine HL.val (Val.move rfl) (by decide) ?_
  refine HL.val (Val.move rfl) (by decide) ?_
  refine HL.val ((Val.convI rfl rfl Tryd.underlying22).as (congrArg (Value.int .u64) (wrapUn (k := 2 ^ k) (by omega)))) (by decide) ?_
  refine HL.callD en100 rfl (fun w hw => lift_one hw (i := 0) rfl (.inl hb2) (ntt0_any hk hlen (ht.sn hw.sn rfl) (hd.sn hw.sn rfl) (hw.at (i := 0) rfl) (Nat.ne_of_lt (Nat.lt_of_lt_of_le ht.lt hb2)) (Nat.ne_of_lt (Nat.lt_of_lt_of_le (db_lt hd) hb2)) hp (hw.at (i := 1) rfl) (nd_ne hw (i := 1) (j := 0) rfl rfl (by decide)))) (by decide) ?_
  simp only [List.set_cons_zero]
  refine HL.nil ?_
  refine HQ.next ?_
  refine HC.seq ?_
  refine HC.region ?_
  refine HL.val (Val.move rfl) (by decide) ?_
  refine HL.fam (FamV.call (R := fun r => True) (ob := fun r => .cells (flat (byA 16) (nttL l k)) 30 (0, 0)) (pv := fun r => .slice (some ⟨r.1, 0, none⟩) (2 ^ k) (2 ^ k)) en82 (fun w hw => all_len (nttL_len l k) (SlA.of_row szE (hw.at (i := 0) rfl)) (nttL_lt l k) (by omega)) rfl) (fun _ h => by cases h) (by decide) ?_
  intro b3 c3 q3 r3 hb3
  dsimp only
  refine HL.val (Val.assign rfl) (by decide) ?_
  refine HL.val (Val.assign rfl) (by decide) ?_
  refine HL.nil ?_
  refine HQ.next ?_
  refine HC.ret ?_
  refine HQ.ret2 rfl rfl rfl (fun w hw => ?_)
  exact ⟨(b3, 0, #[]), trivial, rfl, hw.sn.pure, hb3, hw.at (i := 0) rfl⟩

theorem infoS : (Tryd.prog.info? 47).bind (·.zero) = some (.slice none 0 0) := by kernel_rfl
theorem fillS1 (a : Option Addr) (l c : Nat) : Instr.fill (fun i => some (i * 1, 1)) ((Array.range (1 * 1)).map ((Value.slice none 0 0).cells[· % (Value.slice none 0 0).cells.size]!)) [(0, .slice a l c)] = some #[.slice a l c] := by kernel_rfl
theorem fillS2 (a : Option Addr) (l c : Nat) (a2 : Option Addr) (l2 c2 : Nat) : Instr.fill (fun i => some (i * 1, 1)) ((Array.range (2 * 1)).map ((Value.slice none 0 0).cells[· % (Value.slice none 0 0).cells.size]!)) [(0, .slice a l c), (1, .slice a2 l2 c2)] = some #[.slice a l c, .slice a2 l2 c2] := by kernel_rfl

set_option maxRecDepth 100000 in
theorem power_good {adl : Option Addr} {bl ol cl : Nat} {l : List Nat} {k : Nat} {w : World} (hl : ∀ k, k < l.length → l.getD k 0 < 256 ^ 16) (sl : SlA (byA 16) 16 w adl bl ol l) (hlen : l.length = 2 ^ k) (hk : k < 7) (hF : Few l) :
    Calls Tryd.prog 62 #[.slice adl l.length cl] w fun e w' => e = .returned (.bool true) ∧ Below w.heap.size w w' := by
  have hpk := p2_le hk (Nat.le_refl k)
  refine calls_H (args := [.slice adl l.length cl]) (noD) [] Tryd.func62 rfl (m := 19) rfl rfl (hold_nil _ _) ?_
  refine HC.seq ?_
  refine HC.region ?_
  refine HL.val (Val.assign rfl) (by decide) ?_
  refine HL.nil ?_
  refine HQ.next ?_
  refine HC.seq ?_
  refine HC.region ?_
  refine HL.val (Val.assign rfl) (by decide) ?_
  refine HL.nil ?_
  refine HQ.next ?_
  refine HC.seq ?_
  refine HC.block ?_
  refine HC.loop (ι := {p : Nat // p ≤ k}) (fun p => k - p.1) (fun p => [(0, .slice adl l.length cl), (3, .int .i64 ((2 ^ p.1 : Nat) : Int))]) (fun p => []) ⟨0, Nat.zero_le _⟩ (fun ac wc ha hw => ⟨ha.subS ⟨rfl, rfl, trivial⟩, hw.pick [] (by simp)⟩) ?_
  rintro ⟨q, hq⟩
  dsimp only
  refine HC.seq ?_
  refine HC.seq ?_
  refine HC.region ?_
  refine HL.val (Val.move rfl) (by decide) ?_
  refine HL.val (Val.move rfl) (by decide) ?_
  refine HL.val (Val.lenS rfl rfl Tryd.underlying47) (by decide) ?_
  by_cases hq2 : 2 ^ q < l.length
  · refine HL.val ((Val.lss rfl rfl).as (congrArg Value.bool ((lssN (2 ^ q) l.length).trans (decide_eq_true hq2)))) (by decide) ?_
    refine HL.nil ?_
    refine HQ.next ?_
    refine HC.yes rfl ?_
    refine HC.skip ?_
    refine HQ.next ?_
    refine HC.block ?_
    refine HC.region ?_
    refine HL.val (Val.move rfl) (by decide) ?_
    refine HL.val ((Val.mulI rfl rfl).as (congrArg (Value.int .i64) (dbl (by omega)))) (by decide) ?_
    refine HL.val (Val.assign rfl) (by decide) ?_
    refine HL.nil ?_
    refine HQ.blockNormal ?_
    exact ⟨fun ac wc ha hw => ⟨⟨q + 1, pow_up hq (hlen ▸ hq2)⟩, by dsimp only; have h1 := pow_up hq (hlen ▸ hq2); omega, ha.subS ⟨rfl, rfl, trivial⟩, hw.pick [] (by simp)⟩⟩
  · refine HL.val ((Val.lss rfl rfl).as (congrArg Value.bool ((lssN (2 ^ q) l.length).trans (decide_eq_false hq2)))) (by decide) ?_
    refine HL.nil ?_
    refine HQ.next ?_
    refine HC.no rfl ?_
    refine HC.exit ?_
    refine HQ.thenExit ?_
    refine HQ.thenExit ?_
    refine HQ.blockExit ?_
    refine HQ.next ?_
    refine HC.seq ?_
    refine HC.region ?_
    refine HL.val (Val.move rfl) (by decide) ?_
    refine HL.val (Val.lenS rfl rfl Tryd.underlying47) (by decide) ?_
    refine HL.val (Val.move rfl) (by decide) ?_
    obtain rfl : q = k := pow_is hq (fun h => hq2 (hlen.symm ▸ h))
    refine HL.val (((Val.eqlI rfl rfl).as (congrArg Value.bool (eqlN l.length (2 ^ q)))).as (congrArg Value.bool (decide_eq_true hlen))) (by decide) ?_
    refine HL.val (Val.move rfl) (by decide) ?_
    refine HL.valg rfl (Val.move rfl) (by decide) ?_
    refine HL.newg rfl (New.bslice (s := 1) rfl Tryd.underlying97 (by kernel_rfl) infoS (by decide) (by decide) (fillS1 adl l.length cl)) (by decide) ?_
    intro b1 hb1
    refine HL.valg rfl ((Val.calls en34 (fun w hw => few1_any (hw.at (i := 0) rfl) (sl.sn szBy hw.sn rfl) hl) rfl).as (congrArg Value.bool (decide_eq_true hF))) (by decide) ?_
    refine HL.val (Val.pickT rfl rfl) (by decide) ?_
    refine HL.val (Val.assign rfl) (by decide) ?_
    refine HL.nil ?_
    refine HQ.next ?_
    refine HC.ret ?_
    exact HQ.ret1 rfl rfl (pure_end rfl)

set_option maxRecDepth 100000 in
theorem power_bad {adl : Option Addr} {bl ol cl : Nat} {l : List Nat} {w : World} (hl : ∀ k, k < l.length → l.getD k 0 < 256 ^ 16) (sl : SlA (byA 16) 16 w adl bl ol l) (hbad : ¬ ((∃ k, l.length = 2 ^ k) ∧ Few l)) (hlb : l.length ≤ 2147483647) :
    Calls Tryd.prog 62 #[.slice adl l.length cl] w fun e w' => e = .returned (.bool false) ∧ Below w.heap.size w w' := by
  refine calls_H (args := [.slice adl l.length cl]) (noD) [] Tryd.func62 rfl (m := 19) rfl rfl (hold_nil _ _) ?_
  refine HC.seq ?_
  refine HC.region ?_
  refine HL.val (Val.assign rfl) (by decide) ?_
  refine HL.nil ?_
  refine HQ.next ?_
  refine HC.seq ?_
  refine HC.region ?_
  refine HL.val (Val.assign rfl) (by decide) ?_
  refine HL.nil ?_
  refine HQ.next ?_
  refine HC.seq ?_
  refine HC.block ?_
  refine HC.loop (ι := {p : Nat // p = 0 ∨ 2 ^ (p - 1) < l.length}) (fun p => l.length - 2 ^ p.1) (fun p => [(0, .slice adl l.length cl), (3, .int .i64 ((2 ^ p.1 : Nat) : Int))]) (fun p => []) ⟨0, Or.inl rfl⟩ (fun ac wc ha hw => ⟨ha.subS ⟨rfl, rfl, trivial⟩, hw.pick [] (by simp)⟩) ?_
  rintro ⟨q, hq⟩
  dsimp only
  refine HC.seq ?_
  refine HC.seq ?_
  refine HC.region ?_
  refine HL.val (Val.move rfl) (by decide) ?_
  refine HL.val (Val.move rfl) (by decide) ?_
  refine HL.val (Val.lenS rfl rfl Tryd.underlying47) (by decide) ?_
  by_cases hq2 : 2 ^ q < l.length
  · refine HL.val ((Val.lss rfl rfl).as (congrArg Value.bool ((lssN (2 ^ q) l.length).trans (decide_eq_true hq2)))) (by decide) ?_
    refine HL.nil ?_
    refine HQ.next ?_
    refine HC.yes rfl ?_
    refine HC.skip ?_
    refine HQ.next ?_
    refine HC.block ?_
    refine HC.region ?_
    refine HL.val (Val.move rfl) (by decide) ?_
    refine HL.val ((Val.mulI rfl rfl).as (congrArg (Value.int .i64) (dbl (by omega)))) (by decide) ?_
    refine HL.val (Val.assign rfl) (by decide) ?_
    refine HL.nil ?_
    refine HQ.blockNormal ?_
    have hpq := Nat.two_pow_pos q
    have hs2 : 2 ^ (q + 1) = 2 ^ q * 2 := Nat.pow_succ _ _
    exact ⟨fun ac wc ha hw => ⟨⟨q + 1, Or.inr hq2⟩, by dsimp only; omega, ha.subS ⟨rfl, rfl, trivial⟩, hw.pick [] (by simp)⟩⟩
  · refine HL.val ((Val.lss rfl rfl).as (congrArg Value.bool ((lssN (2 ^ q) l.length).trans (decide_eq_false hq2)))) (by decide) ?_
    refine HL.nil ?_
    refine HQ.next ?_
    refine HC.no rfl ?_
    refine HC.exit ?_
    refine HQ.thenExit ?_
    refine HQ.thenExit ?_
    refine HQ.blockExit ?_
    refine HQ.next ?_
    refine HC.seq ?_
    refine HC.region ?_
    refine HL.val (Val.move rfl) (by decide) ?_
    refine HL.val (Val.lenS rfl rfl Tryd.underlying47) (by decide) ?_
    refine HL.val (Val.move rfl) (by decide) ?_
    by_cases he : l.length = 2 ^ q
    · refine HL.val (((Val.eqlI rfl rfl).as (congrArg Value.bool (eqlN l.length (2 ^ q)))).as (congrArg Value.bool (decide_eq_true he))) (by decide) ?_
      refine HL.val (Val.move rfl) (by decide) ?_
      refine HL.valg rfl (Val.move rfl) (by decide) ?_
      refine HL.newg rfl (New.bslice (s := 1) rfl Tryd.underlying97 (by kernel_rfl) infoS (by decide) (by decide) (fillS1 adl l.length cl)) (by decide) ?_
      intro b1 hb1
      have hF : ¬ Few l := fun h => hbad ⟨⟨q, he⟩, h⟩
      refine HL.valg rfl ((Val.calls en34 (fun w hw => few1_any (hw.at (i := 0) rfl) (sl.sn szBy hw.sn rfl) hl) rfl).as (congrArg Value.bool (decide_eq_false hF))) (by decide) ?_
      refine HL.val (Val.pickT rfl rfl) (by decide) ?_
      refine HL.val (Val.assign rfl) (by decide) ?_
      refine HL.nil ?_
      refine HQ.next ?_
      refine HC.ret ?_
      exact HQ.ret1 rfl rfl (pure_end rfl)
    · refine HL.val (((Val.eqlI rfl rfl).as (congrArg Value.bool (eqlN l.length (2 ^ q)))).as (congrArg Value.bool (decide_eq_false he))) (by decide) ?_
      refine HL.val (Val.move rfl) (by decide) ?_
      refine HL.skip rfl (by decide) ?_
      refine HL.skip rfl (by decide) ?_
      refine HL.skip rfl (by decide) ?_
      refine HL.val (Val.pickF rfl rfl) (by decide) ?_
      refine HL.val (Val.assign rfl) (by decide) ?_
      refine HL.nil ?_
      refine HQ.next ?_
      refine HC.ret ?_
      exact HQ.ret1 rfl rfl (pure_end rfl)
end Go.Proofs.YtgdfdkpkhjbibaaDoor
