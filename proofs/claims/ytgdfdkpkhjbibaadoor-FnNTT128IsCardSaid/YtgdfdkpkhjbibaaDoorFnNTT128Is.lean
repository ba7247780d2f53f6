/-
  FnNTT128Is: whatever the input, the law answers true (written by laws2.py).
  Conditions: the package variables that the row lists read as listed (the card ties them to the program's text).
-/
import Derived.Test.YtgdfdkpkhjbibaaDoorNu
import Derived.Test.YtgdfdkpkhjbibaaDoorHI
import Derived.Test.YtgdfdkpkhjbibaaDoorTie
import Derived.Test.YtgdfdkpkhjbibaaDoorCards
import Derived.SevenTiedAt
namespace Go.Proofs.YtgdfdkpkhjbibaaDoor
open Go.ChangeShapes Go.WideShapes Go.ChangeAt Go.WideElems Go.RowKit
/-- What the reference has for the first i places. -/
def wantL (l : List Nat) (k i : Nat) : List Nat := (List.range i).map fun e => evL l (rt k ^ e % pf)
theorem wantL_len (l : List Nat) (k i : Nat) : (wantL l k i).length = i := by simp [wantL]
theorem wantL_next (l : List Nat) (k i : Nat) : wantL l k i ++ [evL l (rt k ^ i % pf)] = wantL l k (i + 1) := by
  unfold wantL; rw [List.range_succ, List.map_append]; rfl
theorem ntt_want {l : List Nat} {k : Nat} (hlen : l.length = 2 ^ k) : nttL l k = wantL l k (2 ^ k) := List.map_congr_left fun e _ => by
  have h1 := evL_cg (rt k ^ e % pf) l
  rw [hlen] at h1
  have h2 : Cg (evN (2 ^ k) (gd l) (rt k ^ e % pf)) (evN (2 ^ k) (gd l) (rt k ^ e)) := evN_cg _ _ (Cg.mod _)
  have h3 : Cg (evN (2 ^ k) (gd l) (rt k ^ e) % pf) (evL l (rt k ^ e % pf)) := (Cg.mod _).trans ((h1.trans h2).symm)
  exact h3.eq (Nat.mod_lt _ pf_pos) (evL_lt _ _)
theorem wantL_lt (l : List Nat) (k i : Nat) : AllLt (wantL l k i) := allLt_mapR fun _ _ => evL_lt _ _
theorem same_ntt {l : List Nat} {k i b3 T3 b5 T5 c : Nat} {cs : Array Value} {w : World} (hlen : l.length = 2 ^ k) (hk : k < 7) (hi : i = 2 ^ k) (h3 : w.heap[b3]? = some (.cells (flat (byA 16) (nttL l k)) T3 (0, 0))) (h5 : w.heap[b5]? = some (.cells cs T5 (0, 0))) (hpw : PreW cs (wantL l k i)) :
    Calls Tryd.prog 37 #[.slice (some ⟨b3, 0, none⟩) (2 ^ k) (2 ^ k), .slice (some ⟨b5, 0, none⟩) i c] w fun e w' => e = .returned (.bool true) ∧ Below w.heap.size w w' := by
  subst hi
  have hpk := p2_le hk (Nat.le_refl k)
  rw [← ntt_want hlen] at hpw
  have hp := nttL_lt l k
  have h := same_any (c := 2 ^ k) (c2 := c) (SlA.of_row szBy h3) (fun j hj => pf_by (hp j hj)) (PreW.sl hpw h5) (fun j hj => lt_w (hp j hj)) (by rw [nttL_len]; omega)
  rw [nttL_len, decide_eq_true (rfl : nttL l k = nttL l k)] at h
  exact h
theorem shl_one {s : Nat} (h : 2 ^ s < 4294967296) : IntKind.i64.wrap ((1 : Int) * 2 ^ ((s : Nat) : Int).toNat) = ((2 ^ s : Nat) : Int) := by
  rw [Int.toNat_natCast, IntKind.wrap_i64]
  have e : (1 : Int) * 2 ^ s = ((2 ^ s : Nat) : Int) := by rw [Int.one_mul]; norm_cast
  rw [e]
  generalize 2 ^ s = z at *
  omega
theorem x_next (k i : Nat) : rt k ^ i % pf * rt k % pf = rt k ^ (i + 1) % pf := by rw [Nat.mod_mul_mod, ← Nat.pow_succ]
theorem inttF {l : List Nat} {k : Nat} {ad : Option Addr} {b o c : Nat} {w : World} (hk : k < 7) (hlen : l.length = 2 ^ k) (hg : GR w) (ht : RT w) (hd : DB w) (hs : SlA (byA 16) 16 w ad b o l) (hp : AllLt l) :
    Calls Tryd.prog 63 #[.slice ad l.length c, .bool false] w fun e w' => ∃ r : Fam, True ∧ e = .returned (.tuple #[.slice (some ⟨r.1, 0, none⟩) (2 ^ k) (2 ^ k), .bool true]) ∧ Below w.heap.size w w' ∧ w.heap.size ≤ r.1 ∧ w'.heap[r.1]? = some (.cells (flat (byA 16) (nttL l k)) 30 (0, 0)) := by
  rw [hlen]; exact intt_good hk hlen hg ht hd hs hp
set_option maxRecDepth 100000 in
theorem main_w {adl : Option Addr} {bl ol cl : Nat} {l : List Nat} {w : World} (hd : DB w) (hg : GR w) (ht : RT w) (_nl : l.length ≤ 9223372036854775807) (hl : ∀ k, k < l.length → l.getD k 0 < 256 ^ 16) (sl : SlA (byA 16) 16 w adl bl ol l) :
    Calls Tryd.prog 19 #[.slice adl l.length cl] w fun e w' => e = .returned (.bool true) ∧ Below w.heap.size w w' := by
  by_cases hzl : 2147483647 < l.length
  · refine calls_H (args := [.slice adl l.length cl]) noD [] Tryd.func19 rfl (m := 55) rfl rfl (hold_nil _ _) ?_
    refine HC.seq ?_
    refine HC.region ?_
    refine HL.val (Val.assign rfl) (by decide) ?_
    refine HL.nil ?_
    refine HQ.next ?_
    refine HC.seq ?_
    refine HC.seq ?_
    refine HC.region ?_
    refine HL.val (Val.move rfl) (by decide) ?_
    refine HL.val (Val.lenS rfl rfl Tryd.underlying47) (by decide) ?_
    refine HL.val ((Val.gtr rfl rfl).as (congrArg Value.bool ((lssN 2147483647 l.length).trans (decide_eq_true hzl)))) (by decide) ?_
    refine HL.nil ?_
    refine HQ.next ?_
    refine HC.yes rfl ?_
    refine HC.seq ?_
    refine HC.region ?_
    refine HL.val (Val.assign rfl) (by decide) ?_
    refine HL.nil ?_
    refine HQ.next ?_
    refine HC.ret ?_
    refine HQ.thenRet ?_
    exact HQ.ret1 rfl rfl (pure_end rfl)
  by_cases hgd : (∃ k, l.length = 2 ^ k) ∧ Few l
  · obtain ⟨⟨k, hlen⟩, hF⟩ := hgd
    have hk : k < 7 := by
      rcases Nat.lt_or_ge k 7 with h | h
      · exact h
      · have h1 : 2 ^ 7 ≤ 2 ^ k := Nat.pow_le_pow_right (by decide) h
        have h2 := hF.1
        have h3 : (2 : Nat) ^ 7 = 128 := by decide
        omega
    have hfl := hF
    have hpl := allLt_of hfl.2
    have hll : l.length ≤ 100000 := Nat.le_trans hfl.1 (by decide)
    have hpk := p2_le hk (Nat.le_refl k)
    refine calls_H (args := [.slice adl l.length cl]) noD [] Tryd.func19 rfl (m := 55) rfl rfl (hold_nil _ _) ?_
    refine HC.seq ?_
    refine HC.region ?_
    refine HL.val (Val.assign rfl) (by decide) ?_
    refine HL.nil ?_
    refine HQ.next ?_
    refine HC.seq ?_
    refine HC.seq ?_
    refine HC.region ?_
    refine HL.val (Val.move rfl) (by decide) ?_
    refine HL.val (Val.lenS rfl rfl Tryd.underlying47) (by decide) ?_
    refine HL.val ((Val.gtr rfl rfl).as (congrArg Value.bool ((lssN 2147483647 l.length).trans (decide_eq_false hzl)))) (by decide) ?_
    refine HL.nil ?_
    refine HQ.next ?_
    refine HC.no rfl ?_
    refine HC.skip ?_
    refine HQ.next ?_
    refine HC.seq ?_
    refine HC.seq ?_
    refine HC.region ?_
    refine HL.val (Val.move rfl) (by decide) ?_
    refine HL.val (Val.calls en62 (fun w hw => power_good hl (sl.sn szBy hw.sn rfl) hlen hk hF) rfl) (by decide) ?_
    refine HL.val (Val.not rfl) (by decide) ?_
    refine HL.nil ?_
    refine HQ.next ?_
    refine HC.no rfl ?_
    refine HC.skip ?_
    refine HQ.next ?_
    refine HC.seq ?_
    refine HC.region ?_
    refine HL.val (Val.assign rfl) (by decide) ?_
    refine HL.nil ?_
    refine HQ.next ?_
    refine HC.seq ?_
    refine HC.block ?_
    refine HC.loop (ι := {p : Nat // p ≤ k}) (fun p => k - p.1) (fun p => [(0, .slice adl l.length cl), (3, .int .i64 (p.1 : Int))]) (fun p => []) ⟨0, Nat.zero_le _⟩ (fun ac wc ha hw => ⟨ha.subS ⟨rfl, rfl, trivial⟩, hw.pick [] (by simp)⟩) ?_
    rintro ⟨s, hs⟩
    dsimp only
    refine HC.seq ?_
    refine HC.seq ?_
    refine HC.region ?_
    refine HL.val (Val.move rfl) (by decide) ?_
    have hps := p2_le hk hs
    refine HL.val ((Val.shlI rfl rfl (Int.natCast_nonneg _) (show ((s : Nat) : Int) ≤ 64 by omega)).as (congrArg (Value.int .i64) (shl_one (by omega)))) (by decide) ?_
    refine HL.val (Val.move rfl) (by decide) ?_
    refine HL.val (Val.lenS rfl rfl Tryd.underlying47) (by decide) ?_
    by_cases hsl : 2 ^ s < l.length
    · refine HL.val ((Val.lss rfl rfl).as (congrArg Value.bool ((lssN (2 ^ s) l.length).trans (decide_eq_true hsl)))) (by decide) ?_
      refine HL.nil ?_
      refine HQ.next ?_
      refine HC.yes rfl ?_
      refine HC.skip ?_
      refine HQ.next ?_
      refine HC.block ?_
      refine HC.region ?_
      refine HL.val (Val.move rfl) (by decide) ?_
      refine HL.val ((Val.addI rfl rfl).as (congrArg (Value.int .i64) (wrap1 s (by omega)))) (by decide) ?_
      refine HL.val (Val.assign rfl) (by decide) ?_
      refine HL.nil ?_
      refine HQ.blockNormal ?_
      have hsk := pow_up hs (hlen ▸ hsl)
      exact ⟨fun ac wc ha hw => ⟨⟨s + 1, hsk⟩, by dsimp only; omega, ha.subS ⟨rfl, rfl, trivial⟩, hw.pick [] (by simp)⟩⟩
    · refine HL.val ((Val.lss rfl rfl).as (congrArg Value.bool ((lssN (2 ^ s) l.length).trans (decide_eq_false hsl)))) (by decide) ?_
      refine HL.nil ?_
      refine HQ.next ?_
      refine HC.no rfl ?_
      refine HC.exit ?_
      refine HQ.thenExit ?_
      refine HQ.thenExit ?_
      refine HQ.blockExit ?_
      refine HQ.next ?_
      refine HC.seq ?_
      refine HC.region ?_
      refine HL.val (Val.call en21 (fl_p) rfl) (by decide) ?_
      refine HL.val (Val.move rfl) (by decide) ?_
      have hsk : k = s := (pow_is hs (fun h => hsl (hlen.symm ▸ h))).symm
      subst hsk
      refine HL.val (Val.call en24 (sroot_p k (by omega)) rfl) (by decide) ?_
      refine HL.val (Val.build rfl (built_wl 1 (by decide))) (by decide) ?_
      refine HL.new (New.alloc al25) (by decide) ?_
      intro b1 hb1
      refine HL.new (New.alloc al25) (by decide) ?_
      intro b2 hb2
      refine HL.put 1 rfl (Put.row rfl rfl (by kernel_rfl) rfl (wA_one _)) (.inl hb1) ?_
      simp only [List.set_cons_zero, List.set_cons_succ]
      refine HL.put 0 rfl (Put.row rfl rfl (by kernel_rfl) rfl (wA_one _)) (.inl hb2) ?_
      simp only [List.set_cons_zero]
      refine HL.nil ?_
      refine HQ.next ?_
      refine HC.seq ?_
      refine HC.region ?_
      refine HL.new (New.bslice0 (s := 2) rfl Tryd.underlying51 (by kernel_rfl)) (by decide) ?_
      intro b3 hb3
      refine HL.val (Val.assign rfl) (by decide) ?_
      refine HL.nil ?_
      refine HQ.next ?_
      refine HC.seq ?_
      refine HC.seq ?_
      refine HC.region ?_
      refine HL.val (Val.move rfl) (by decide) ?_
      refine HL.val (Val.lenS rfl rfl Tryd.underlying47) (by decide) ?_
      refine HL.val (Val.move rfl) (by decide) ?_
      refine HL.nil ?_
      refine HQ.next ?_
      refine HC.block ?_
      refine HC.loop (ι := {p : Nat × Nat × Nat × Array Value // p.1 ≤ l.length ∧ w.heap.size ≤ p.2.1 ∧ p.1 ≤ p.2.2.1 ∧ p.2.2.2.size = p.2.2.1 * 2 ∧ PreW p.2.2.2 (wantL l k p.1)}) (fun p => l.length - p.1.1) (fun p => [(0, .slice adl l.length cl), (4, .pointer (some ⟨b1, 0, none⟩)), (5, .pointer (some ⟨b2, 0, none⟩)), (6, .slice (some ⟨p.1.2.1, 0, none⟩) p.1.1 p.1.2.2.1), (29, .int .i64 (p.1.1 : Int)), (28, .int .i64 (l.length : Int))]) (fun p => [(p.1.2.1, .cells p.1.2.2.2 25 (0, 0)), (b1, .cells (wA (rt k)) 25 (0, 0)), (b2, .cells (wA (rt k ^ p.1.1 % pf)) 25 (0, 0))]) ⟨(0, b3, 0, #[]), Nat.zero_le _, hb3, Nat.le_refl _, rfl, preW_nil⟩ (fun ac wc ha hw => ⟨ha.subS ⟨rfl, rfl, rfl, rfl, rfl, rfl, trivial⟩, by have h := hw.pick [0, 2, 1] (by simp); dsimp only; rw [Nat.pow_zero, Nat.mod_eq_of_lt one_lt]; exact h⟩) ?_
      rintro ⟨⟨i, bo, mc, cur⟩, hi, hbo, hmc, hcs, hpw⟩
      dsimp only at hi hbo hmc hcs hpw ⊢
      refine HC.seq ?_
      refine HC.region ?_
      by_cases hil : i < l.length
      · refine HL.val ((Val.lss rfl rfl).as (congrArg Value.bool ((lssN i l.length).trans (decide_eq_true hil)))) (by decide) ?_
        refine HL.nil ?_
        refine HQ.next ?_
        refine HC.seq ?_
        refine HC.yes rfl ?_
        refine HC.skip ?_
        refine HQ.next ?_
        refine HC.seq ?_
        refine HC.block ?_
        refine HC.seq ?_
        refine HC.drawA (by kernel_rfl) ?_
        refine HA.takeMove (i := 0) rfl (by kernel_rfl) rfl (by decide) ?_
        refine HA.takeMove (i := 2) rfl (by kernel_rfl) rfl (by decide) ?_
        refine HA.two (i := 1) (j := 4) (by kernel_rfl) rfl rfl ?_ ?_
        · refine HL.val (Val.call en21 (fl_p) rfl) (by decide) ?_
          refine HL.thenA ?_
          refine HA.two (i := 3) (j := 4) (by kernel_rfl) rfl rfl ?_ ?_
          · refine HL.fam (FamV.call (R := fun r => PreW r.2.2 l ∧ l.length ≤ r.2.1) (ob := fun r => .cells r.2.2 25 (0, 0)) (pv := fun r => .slice (some ⟨r.1, 0, none⟩) l.length r.2.1) en36 (fun w hw => l_any (sl.sn szBy hw.sn rfl) hl hll) rfl) (fun _ h => by cases h) (by decide) ?_
            intro b4 c4 q4 r4 hb4
            dsimp only
            refine HL.thenA ?_
            refine HA.one (i := 4) (by kernel_rfl) rfl ?_
            refine HL.val (Val.load_row rfl (fun w hw => hw.at (i := 3) rfl) Tryd.underlying25 rfl (by kernel_rfl)) (by decide) ?_
            refine HL.thenA ?_
            refine HA.seq 5 (l := List.drop 5 _) (fun j => by rw [List.getElem?_drop, List.getElem?_toArray]) (by kernel_rfl) (by kernel_rfl) ?_
            simp only [List.drop]
            refine HL.val (Val.calls en39 (fun w hw => seval_any (PreW.sl r4.1 (hw.at (i := 0) rfl)) hpl (Nat.mod_lt _ pf_pos) hll) rfl) (by decide) ?_
            refine HL.new (New.bslice rfl Tryd.underlying51 (by kernel_rfl) infoW (by decide) (by decide) (fillW1 _)) (by decide) ?_
            intro b5 hb5
            refine HL.app (s := 2) (by' := 16) (z := .agg (wA 0)) 2 (wA (evL l (rt k ^ i % pf))) rfl rfl Tryd.underlying51 (by kernel_rfl) (by kernel_rfl) rfl (by kernel_rfl) rfl hmc hcs rfl (fun w hw => cell_row (hw.at (i := 0) rfl)) (memW _) hbo (by omega) (by decide) (by decide) ?_
            intro bo2 mc2 cur2 hbo2 hmc2 hcs2 hk1 hk2
            simp only [List.set_cons_zero, List.set_cons_succ]
            refine HL.val (Val.assign rfl) (by decide) ?_
            refine HL.nil ?_
            refine HQ.noP ?_
            refine HQ.next ?_
            refine HC.draw0 4 (by kernel_rfl) (by kernel_rfl) ?_
            simp only [List.take, List.drop]
            refine HV.val (Val.call en21 (fl_p) rfl) (by decide) ?_
            refine HV.val (Val.load_row rfl (fun w hw => hw.at (i := 4) rfl) Tryd.underlying25 rfl (by kernel_rfl)) (by decide) ?_
            refine HV.val (Val.load_row rfl (fun w hw => hw.at (i := 3) rfl) Tryd.underlying25 rfl (by kernel_rfl)) (by decide) ?_
            refine HV.val (Val.call en45 (smul_p ((rt k ^ i % pf)) ((rt k)) (Nat.mod_lt _ pf_pos) (lt_b (rt_lt (by omega)))) rfl) (by decide) ?_
            refine HV.tail0 ?_
            refine HL.put 4 rfl (Put.row rfl rfl (by kernel_rfl) rfl (wA_one _)) (.inl hb2) ?_
            simp only [List.set_cons_zero, List.set_cons_succ]
            refine HL.nil ?_
            refine HQ.blockNormal ?_
            refine HQ.next ?_
            refine HC.region ?_
            refine HL.val ((Val.addI rfl rfl).as (congrArg (Value.int .i64) (wrap1 i (by omega)))) (by decide) ?_
            refine HL.val (Val.move rfl) (by decide) ?_
            refine HL.nil ?_
            exact ⟨fun ac wc ha hw => ⟨⟨(i + 1, bo2, mc2, cur2), hil, hbo2, hmc2, hcs2, by rw [← wantL_next]; exact PreW.app hpw (by rw [wantL_len]; exact hk1) (by rw [wantL_len]; exact hk2)⟩, by dsimp only; omega, ha.subS ⟨rfl, rfl, rfl, rfl, rfl, rfl, trivial⟩, by have h := hw.pick [2, 3, 4] (by simp); simp only [List.filterMap_cons, List.filterMap_nil, List.getElem?_cons_zero, List.getElem?_cons_succ] at h; rw [x_next] at h; exact h⟩⟩
          · refine HL.val (Val.load_row rfl (fun w hw => hw.at (i := 2) rfl) Tryd.underlying25 rfl (by kernel_rfl)) (by decide) ?_
            refine HL.thenA ?_
            refine HA.one (i := 3) (by kernel_rfl) rfl ?_
            refine HL.fam (FamV.call (R := fun r => PreW r.2.2 l ∧ l.length ≤ r.2.1) (ob := fun r => .cells r.2.2 25 (0, 0)) (pv := fun r => .slice (some ⟨r.1, 0, none⟩) l.length r.2.1) en36 (fun w hw => l_any (sl.sn szBy hw.sn rfl) hl hll) rfl) (fun _ h => by cases h) (by decide) ?_
            intro b4 c4 q4 r4 hb4
            dsimp only
            refine HL.thenA ?_
            refine HA.seq 5 (l := List.drop 5 _) (fun j => by rw [List.getElem?_drop, List.getElem?_toArray]) (by kernel_rfl) (by kernel_rfl) ?_
            simp only [List.drop]
            refine HL.val (Val.calls en39 (fun w hw => seval_any (PreW.sl r4.1 (hw.at (i := 0) rfl)) hpl (Nat.mod_lt _ pf_pos) hll) rfl) (by decide) ?_
            refine HL.new (New.bslice rfl Tryd.underlying51 (by kernel_rfl) infoW (by decide) (by decide) (fillW1 _)) (by decide) ?_
            intro b5 hb5
            refine HL.app (s := 2) (by' := 16) (z := .agg (wA 0)) 2 (wA (evL l (rt k ^ i % pf))) rfl rfl Tryd.underlying51 (by kernel_rfl) (by kernel_rfl) rfl (by kernel_rfl) rfl hmc hcs rfl (fun w hw => cell_row (hw.at (i := 0) rfl)) (memW _) hbo (by omega) (by decide) (by decide) ?_
            intro bo2 mc2 cur2 hbo2 hmc2 hcs2 hk1 hk2
            simp only [List.set_cons_zero, List.set_cons_succ]
            refine HL.val (Val.assign rfl) (by decide) ?_
            refine HL.nil ?_
            refine HQ.noP ?_
            refine HQ.next ?_
            refine HC.draw0 4 (by kernel_rfl) (by kernel_rfl) ?_
            simp only [List.take, List.drop]
            refine HV.val (Val.call en21 (fl_p) rfl) (by decide) ?_
            refine HV.val (Val.load_row rfl (fun w hw => hw.at (i := 4) rfl) Tryd.underlying25 rfl (by kernel_rfl)) (by decide) ?_
            refine HV.val (Val.load_row rfl (fun w hw => hw.at (i := 3) rfl) Tryd.underlying25 rfl (by kernel_rfl)) (by decide) ?_
            refine HV.val (Val.call en45 (smul_p ((rt k ^ i % pf)) ((rt k)) (Nat.mod_lt _ pf_pos) (lt_b (rt_lt (by omega)))) rfl) (by decide) ?_
            refine HV.tail0 ?_
            refine HL.put 4 rfl (Put.row rfl rfl (by kernel_rfl) rfl (wA_one _)) (.inl hb2) ?_
            simp only [List.set_cons_zero, List.set_cons_succ]
            refine HL.nil ?_
            refine HQ.blockNormal ?_
            refine HQ.next ?_
            refine HC.region ?_
            refine HL.val ((Val.addI rfl rfl).as (congrArg (Value.int .i64) (wrap1 i (by omega)))) (by decide) ?_
            refine HL.val (Val.move rfl) (by decide) ?_
            refine HL.nil ?_
            exact ⟨fun ac wc ha hw => ⟨⟨(i + 1, bo2, mc2, cur2), hil, hbo2, hmc2, hcs2, by rw [← wantL_next]; exact PreW.app hpw (by rw [wantL_len]; exact hk1) (by rw [wantL_len]; exact hk2)⟩, by dsimp only; omega, ha.subS ⟨rfl, rfl, rfl, rfl, rfl, rfl, trivial⟩, by have h := hw.pick [2, 3, 4] (by simp); simp only [List.filterMap_cons, List.filterMap_nil, List.getElem?_cons_zero, List.getElem?_cons_succ] at h; rw [x_next] at h; exact h⟩⟩
        · refine HL.val (Val.load_row rfl (fun w hw => hw.at (i := 2) rfl) Tryd.underlying25 rfl (by kernel_rfl)) (by decide) ?_
          refine HL.thenA ?_
          refine HA.one (i := 1) (by kernel_rfl) rfl ?_
          refine HL.val (Val.call en21 (fl_p) rfl) (by decide) ?_
          refine HL.thenA ?_
          refine HA.one (i := 3) (by kernel_rfl) rfl ?_
          refine HL.fam (FamV.call (R := fun r => PreW r.2.2 l ∧ l.length ≤ r.2.1) (ob := fun r => .cells r.2.2 25 (0, 0)) (pv := fun r => .slice (some ⟨r.1, 0, none⟩) l.length r.2.1) en36 (fun w hw => l_any (sl.sn szBy hw.sn rfl) hl hll) rfl) (fun _ h => by cases h) (by decide) ?_
          intro b4 c4 q4 r4 hb4
          dsimp only
          refine HL.thenA ?_
          refine HA.seq 5 (l := List.drop 5 _) (fun j => by rw [List.getElem?_drop, List.getElem?_toArray]) (by kernel_rfl) (by kernel_rfl) ?_
          simp only [List.drop]
          refine HL.val (Val.calls en39 (fun w hw => seval_any (PreW.sl r4.1 (hw.at (i := 0) rfl)) hpl (Nat.mod_lt _ pf_pos) hll) rfl) (by decide) ?_
          refine HL.new (New.bslice rfl Tryd.underlying51 (by kernel_rfl) infoW (by decide) (by decide) (fillW1 _)) (by decide) ?_
          intro b5 hb5
          refine HL.app (s := 2) (by' := 16) (z := .agg (wA 0)) 2 (wA (evL l (rt k ^ i % pf))) rfl rfl Tryd.underlying51 (by kernel_rfl) (by kernel_rfl) rfl (by kernel_rfl) rfl hmc hcs rfl (fun w hw => cell_row (hw.at (i := 0) rfl)) (memW _) hbo (by omega) (by decide) (by decide) ?_
          intro bo2 mc2 cur2 hbo2 hmc2 hcs2 hk1 hk2
          simp only [List.set_cons_zero, List.set_cons_succ]
          refine HL.val (Val.assign rfl) (by decide) ?_
          refine HL.nil ?_
          refine HQ.noP ?_
          refine HQ.next ?_
          refine HC.draw0 4 (by kernel_rfl) (by kernel_rfl) ?_
          simp only [List.take, List.drop]
          refine HV.val (Val.call en21 (fl_p) rfl) (by decide) ?_
          refine HV.val (Val.load_row rfl (fun w hw => hw.at (i := 4) rfl) Tryd.underlying25 rfl (by kernel_rfl)) (by decide) ?_
          refine HV.val (Val.load_row rfl (fun w hw => hw.at (i := 3) rfl) Tryd.underlying25 rfl (by kernel_rfl)) (by decide) ?_
          refine HV.val (Val.call en45 (smul_p ((rt k ^ i % pf)) ((rt k)) (Nat.mod_lt _ pf_pos) (lt_b (rt_lt (by omega)))) rfl) (by decide) ?_
          refine HV.tail0 ?_
          refine HL.put 4 rfl (Put.row rfl rfl (by kernel_rfl) rfl (wA_one _)) (.inl hb2) ?_
          simp only [List.set_cons_zero, List.set_cons_succ]
          refine HL.nil ?_
          refine HQ.blockNormal ?_
          refine HQ.next ?_
          refine HC.region ?_
          refine HL.val ((Val.addI rfl rfl).as (congrArg (Value.int .i64) (wrap1 i (by omega)))) (by decide) ?_
          refine HL.val (Val.move rfl) (by decide) ?_
          refine HL.nil ?_
          exact ⟨fun ac wc ha hw => ⟨⟨(i + 1, bo2, mc2, cur2), hil, hbo2, hmc2, hcs2, by rw [← wantL_next]; exact PreW.app hpw (by rw [wantL_len]; exact hk1) (by rw [wantL_len]; exact hk2)⟩, by dsimp only; omega, ha.subS ⟨rfl, rfl, rfl, rfl, rfl, rfl, trivial⟩, by have h := hw.pick [2, 3, 4] (by simp); simp only [List.filterMap_cons, List.filterMap_nil, List.getElem?_cons_zero, List.getElem?_cons_succ] at h; rw [x_next] at h; exact h⟩⟩
      · refine HL.val ((Val.lss rfl rfl).as (congrArg Value.bool ((lssN i l.length).trans (decide_eq_false hil)))) (by decide) ?_
        refine HL.nil ?_
        refine HQ.next ?_
        refine HC.seq ?_
        refine HC.no rfl ?_
        refine HC.exit ?_
        refine HQ.thenExit ?_
        refine HQ.thenExit ?_
        refine HQ.blockExit ?_
        refine HQ.next ?_
        refine HC.seq ?_
        refine HC.region ?_
        refine HL.val (Val.move rfl) (by decide) ?_
        refine HL.fam (FamV.call (R := fun r => True) (ob := fun r => .cells (flat (byA 16) (nttL l k)) 30 (0, 0)) (pv := fun r => .tuple #[.slice (some ⟨r.1, 0, none⟩) (2 ^ k) (2 ^ k), .bool true]) en63 (fun w hw => inttF hk hlen (hg.sn hw.sn rfl) (ht.sn hw.sn rfl) (hd.sn hw.sn rfl) (sl.sn szBy hw.sn rfl) hpl) rfl) (fun _ h => by cases h) (by decide) ?_
        intro b4 c4 q4 r4 hb4
        dsimp only
        refine HL.val (Val.move rfl) (by decide) ?_
        refine HL.val (Val.extract rfl rfl) (by decide) ?_
        refine HL.val (Val.extract rfl rfl) (by decide) ?_
        refine HL.val (Val.assign rfl) (by decide) ?_
        refine HL.val (Val.assign rfl) (by decide) ?_
        refine HL.nil ?_
        refine HQ.next ?_
        refine HC.seq ?_
        refine HC.region ?_
        refine HL.val (Val.move rfl) (by decide) ?_
        refine HL.val (Val.move rfl) (by decide) ?_
        refine HL.valg rfl (Val.move rfl) (by decide) ?_
        refine HL.valg rfl (Val.move rfl) (by decide) ?_
        refine HL.valg rfl (Val.calls en37 (fun w hw => same_ntt hlen hk (by omega) (hw.at (i := 0) rfl) (hw.at (i := 1) rfl) hpw) rfl) (by decide) ?_
        refine HL.val (Val.pickT rfl rfl) (by decide) ?_
        refine HL.val (Val.assign rfl) (by decide) ?_
        refine HL.nil ?_
        refine HQ.next ?_
        refine HC.ret ?_
        exact HQ.ret1 rfl rfl (pure_end rfl)
  · have hbad := hgd
    have hlb : l.length ≤ 2147483647 := by omega
    refine calls_H (args := [.slice adl l.length cl]) noD [] Tryd.func19 rfl (m := 55) rfl rfl (hold_nil _ _) ?_
    refine HC.seq ?_
    refine HC.region ?_
    refine HL.val (Val.assign rfl) (by decide) ?_
    refine HL.nil ?_
    refine HQ.next ?_
    refine HC.seq ?_
    refine HC.seq ?_
    refine HC.region ?_
    refine HL.val (Val.move rfl) (by decide) ?_
    refine HL.val (Val.lenS rfl rfl Tryd.underlying47) (by decide) ?_
    refine HL.val ((Val.gtr rfl rfl).as (congrArg Value.bool ((lssN 2147483647 l.length).trans (decide_eq_false hzl)))) (by decide) ?_
    refine HL.nil ?_
    refine HQ.next ?_
    refine HC.no rfl ?_
    refine HC.skip ?_
    refine HQ.next ?_
    refine HC.seq ?_
    refine HC.seq ?_
    refine HC.region ?_
    refine HL.val (Val.move rfl) (by decide) ?_
    refine HL.val (Val.calls en62 (fun w hw => power_bad hl (sl.sn szBy hw.sn rfl) hbad hlb) rfl) (by decide) ?_
    refine HL.val (Val.not rfl) (by decide) ?_
    refine HL.nil ?_
    refine HQ.next ?_
    refine HC.yes rfl ?_
    refine HC.seq ?_
    refine HC.region ?_
    refine HL.val (Val.assign rfl) (by decide) ?_
    refine HL.nil ?_
    refine HQ.next ?_
    refine HC.ret ?_
    refine HQ.thenRet ?_
    exact HQ.ret1 rfl rfl (pure_end rfl)
set_option maxRecDepth 100000 in
theorem fnNTT128Is_met (os : Os) (args : Array Value) : laidMetH Tryd.prog Rows.fnNTT128IsRow.laid ((World.doorLaid Tryd.prog 400 os).forCall (fun _ _ => 0) ⟨#[], args, []⟩).memory :=
  laidMetH_of_parts3 (fuel := 8) (laidMet_of_run' 8 (by kernel_rfl) (by kernel_rfl)) (by kernel_rfl) (by kernel_rfl)
set_option maxRecDepth 100000 in
theorem fnNTT128Is_lifted (os : Os) (started : os.Started) (H : Type) (enc : TypeId × Value → H) :
    ReturnsInHanded {} Tryd.checked os 19 .any (fun w args => (Rows.fnNTT128IsSpec.pre enc Tryd.prog Tryd.f19 [] false w args ∧ laidMetH Tryd.prog Rows.fnNTT128IsRow.laid w) ∧ sizedMet enc Tryd.prog Tryd.f19 (OpenSpec.ofChange Rows.fnNTT128IsSpec) false w args)
      (Rows.fnNTT128IsSpec.post enc Tryd.prog Tryd.f19 false true false false) := by
  refine returnsInHanded_of_change_and (C := Tryd.checked) (X := fun w _ => laidMetH Tryd.prog Rows.fnNTT128IsRow.laid w) (fun _ _ _ hh h => h.of_heap hh) own1 started (by kernel_rfl) Tryd.func19
    (ChangeSpec.witness_shaped (enc := enc) (C := Tryd.checked) (os := os) (X := fun w _ => laidMetH Tryd.prog Rows.fnNTT128IsRow.laid w) false (World.doorLaid Tryd.prog 400 os) #[.slice none 0 0] 8 rfl (World.shaped_of_RefB (by kernel_rfl) (by kernel_rfl)) (by kernel_rfl) (by kernel_rfl) (by kernel_rfl) (fnNTT128Is_met os _)) ?_
  intro W base args ds gs before hval0 hW _ _ hL _
  have hval : ∀ (j : Nat) t v, Tryd.f19.params[j]? = some t → args[j]? = some v → Value.okWide Tryd.prog W .any base t v := hval0
  have hW' := hW
  obtain ⟨p, q, hA0, hV, rfl, hfz, hnd⟩ := hW
  have hV0 := hV
  have hA : DataW.TrodAll enc Tryd.prog W 0 (fun _ => true) true Tryd.f19.params.toList args.toList ds p := hA0
  rw [Tryd.params19] at hA hval
  obtain ⟨v0, d0, rfl, rfl, h0⟩ := trodAll_one hA
  obtain ⟨g0, g1, g2, rfl⟩ : ∃ g0 g1 g2, gs = [g0, g1, g2] := by
    have hgl := trodVars_len hV0
    match gs, hgl with
    | [g0, g1, g2], _ => exact ⟨g0, g1, g2, rfl⟩
  obtain ⟨adl, bl, ol, cl, l, rfl, nl, hl, sl⟩ := open_rows Tryd.underlying47 Tryd.underlying30 Tryd.underlying5 (by kernel_rfl) (by kernel_rfl) (by decide) (hval 0 47 v0 rfl rfl) h0
  clear hA0 hval0
  refine (main_w (db_at (laid_at (by kernel_rfl) hL 1 rfl)) (gr_at (laid_at (by kernel_rfl) hL 2 rfl)) (rt_at (laid_at (by kernel_rfl) hL 3 rfl)) nl hl sl).mono fun e W' ⟨he, hb⟩ => ?_
  subst he
  exact ⟨_, rfl, ⟨_, _, _, [], _, _, hW', trodAll_mk1 (shut_bool Tryd.underlying4 true), trodAll_mk1 (Below.trod laidOut1 (by kernel_rfl) (of_decide_eq_true (by kernel_rfl)) h0 hb (trod_lt h0)), Below.trodVars laidOut1 hb (by kernel_rfl) hV, hb.frame _, fun h => by cases h⟩⟩
theorem fnNTT128Is_c1 : (Rows.fnNTT128IsRow.inPlace == Tryd.pinned.checked.prog.inPlace 19) = true := by kernel_rfl
theorem fnNTT128Is_c2 : (Rows.fnNTT128IsRow.unfollowed == Tryd.pinned.checked.prog.unfollowed 19) = true := by kernel_rfl
theorem fnNTT128Is_c3 : (Rows.fnNTT128IsRow.recurses == Tryd.pinned.checked.prog.recurses 19) = true := by kernel_rfl
theorem fnNTT128Is_c4 : (Rows.fnNTT128IsRow.named == Tryd.pinned.checked.prog.varsNamed 19) = true := by kernel_rfl
theorem fnNTT128Is_c5 : Rows.fnNTT128IsRow.wf (OpenSpec.ofChange Rows.fnNTT128IsSpec) = true := by kernel_rfl
theorem fnNTT128Is_c8 : (Rows.fnNTT128IsRow.plainKeys == Tryd.pinned.checked.prog.plainKeys) = true := by kernel_rfl
theorem fnNTT128Is_d1 : (Rows.fnNTT128IsRow.lifted == Tryd.pinned.checked.prog.liftsFinal) = true := by rw [lifts1]; rfl
theorem fnNTT128Is_d2 : (Tryd.pinned.checked.prog.make == some Rows.fnNTT128IsRow.make) = true := by rw [make1]; rfl
theorem looks1 : false = Tryd.pinned.checked.prog.looks [] := by kernel_rfl
theorem fnNTT128Is_closed : joinedFacts Tryd.pinned.checked.prog 19 Tryd.f19 Rows.fnNTT128IsSpec Rows.fnNTT128IsRow = true := by
  delta joinedFacts
  repeat' with_reducible apply and_i
  all_goals first | with_reducible exact fnNTT128Is_c1 | with_reducible exact fnNTT128Is_c2 | with_reducible exact fnNTT128Is_c3 | with_reducible exact fnNTT128Is_c4 | with_reducible exact fnNTT128Is_c5 | with_reducible exact c6 | with_reducible exact c7 | with_reducible exact fnNTT128Is_c8 | with_reducible exact c9 | with_reducible exact may1 | with_reducible exact fnNTT128Is_d1 | with_reducible exact fnNTT128Is_d2 | kernel_rfl
theorem fnNTT128Is_named : Tryd.pinned.checked.prog.funcNamed Rows.fnNTT128IsRow.func = some 19 := by kernel_rfl
theorem fnNTT128Is_inst : Tryd.f19.isInstance Tryd.pinned.checked.prog Rows.fnNTT128IsRow.origin Rows.fnNTT128IsRow.targs := of_decide_eq_true (by kernel_rfl)
theorem fnNTT128Is_wrap : Tryd.f19.isWrapper Tryd.pinned.checked.prog Rows.fnNTT128IsRow.wrapper Rows.fnNTT128IsRow.mainSum := by unfold Func.isWrapper; first | (rw [if_pos (by decide +kernel)]; kernel_rfl) | (rw [if_neg (by decide +kernel)]; exact ⟨rfl, rfl⟩)
theorem fnNTT128Is_holds : Rows.FnNTT128IsSaid :=
  OpenClaim.holds_of_wide 19 Tryd.f19 rfl rfl rfl rfl rfl rfl rfl ⟨rfl, rfl, rfl, rfl, rfl⟩ rfl rfl rfl rfl rfl fnNTT128Is_named Tryd.func19 fnNTT128Is_closed
    fnNTT128Is_inst fnNTT128Is_wrap
    (fun os started H enc _ => fnNTT128Is_lifted os started H enc)
theorem fnNTT128Is_w : Rows.fnNTT128IsRow.wfByText (OpenSpec.ofChange Rows.fnNTT128IsSpec) = true := by kernel_rfl
theorem fnNTT128Is_main1 : Tryd.pinned.checked.prog.mainIs = some (Rows.fnNTT128IsCard.stood.harness.1, Rows.fnNTT128IsCard.stood.harness.2.toList) := main1.trans (by kernel_rfl)
theorem fnNTT128Is_goes : false = Rows.fnNTT128IsRow.goesBy Tryd.pinned.checked.prog := by kernel_rfl
theorem fnNTT128Is_har : (!Rows.fnNTT128IsCard.stood.harness.1 && Rows.fnNTT128IsCard.stood.harness.2.isEmpty && !false) = false := by kernel_rfl
theorem fnNTT128Is_hl : ∀ f fn, Tryd.pinned.checked.prog.funcNamed Rows.fnNTT128IsRow.func = some f → Tryd.pinned.checked.prog.funcs[f]? = some fn → false = Tryd.pinned.checked.prog.looks [] ∧ ∀ (j : Nat) t, fn.params[j]? = some t → Tryd.pinned.checked.prog.wantsStandIn t = false := fun f fn hf hfn => by
  obtain rfl : f = 19 := (Option.some.inj (fnNTT128Is_named.symm.trans hf)).symm
  obtain rfl : fn = Tryd.f19 := (Option.some.inj (Tryd.func19.symm.trans hfn)).symm
  exact ⟨looks1, fun j t ht => by
    rw [Tryd.params19] at ht
    have hm : t ∈ [47] := by simpa using Array.mem_of_getElem? ht
    have hall : ([47].all fun u => !Tryd.pinned.checked.prog.wantsStandIn u) = true := by kernel_rfl
    exact (show Tryd.pinned.checked.prog.wantsStandIn t = false by simpa using List.all_eq_true.1 hall t hm)⟩
theorem fnNTT128IsCard_holds : Rows.FnNTT128IsCardSaid :=
  Claim7.holds_tied_plain_at .later [] Rows.fnNTT128IsCard.laidKinds true Rows.fnNTT128IsCard.stood.harness false
    fnNTT128Is_holds (fun _ h => by cases h) fnNTT128Is_w (fun _ h => by cases h) fnNTT128Is_row_tie rfl ⟨rfl, rfl⟩ fnNTT128Is_main1 fnNTT128Is_har fnNTT128Is_hl fnNTT128Is_goes
#print axioms fnNTT128IsCard_holds
end Go.Proofs.YtgdfdkpkhjbibaaDoor
