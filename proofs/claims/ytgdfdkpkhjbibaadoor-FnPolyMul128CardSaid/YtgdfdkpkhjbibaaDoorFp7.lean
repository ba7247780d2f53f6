/-
  The reference's roots and numbers; inverses of numbers and of powers of two (written by genfp7.py).
-/
import Derived.Test.YtgdfdkpkhjbibaaDoorFp6
namespace Go.Proofs.YtgdfdkpkhjbibaaDoor
open Go.RowKit

set_option maxRecDepth 100000 in
theorem rt_sq : ∀ j, j < 66 → rt (j + 1) * rt (j + 1) % pf = rt j := by decide +kernel
theorem rt_top : 7 ^ ((pf - 1) / 2 ^ 66) % pf = rt 66 := by
  rw [← pwF_eq 7 128 _ (by decide +kernel)]; decide +kernel
theorem half_lo {e : Nat} (_h : e < 2 ^ 128) : bits .or .u64 (((e % 18446744073709551616 / 2 : Nat) : Int)) (IntKind.u64.wrap (((e / 18446744073709551616 : Nat) : Int) * 2 ^ (63 : Int).toNat)) = (((e / 2) % 18446744073709551616 : Nat) : Int) := by
  have e1 : IntKind.u64.wrap (((e / 18446744073709551616 : Nat) : Int) * 2 ^ (63 : Int).toNat) = ((2 ^ 63 * (e / 18446744073709551616 % 2) : Nat) : Int) := by
    rw [show (63 : Int).toNat = 63 from rfl, IntKind.wrap_u64]; omega
  rw [e1, u64_or_nat _ _ (by omega) (by omega), Nat.or_comm, ← Nat.two_pow_add_eq_or_of_lt (i := 63) (by omega)]
  congr 1; omega
theorem half_sh (x : Nat) : (x : Int) / 2 ^ (1 : Int).toNat = ((x / 2 : Nat) : Int) := by
  rw [show (1 : Int).toNat = 1 from rfl]; norm_cast
theorem half_hi (e : Nat) : e / 18446744073709551616 / 2 = e / 2 / 18446744073709551616 := by omega

theorem e_lt : pf - 1 < 2 ^ 128 := by decide +kernel
theorem e_0 : pf - 1 = (pf - 1) / 2 ^ 0 := by rw [Nat.pow_zero, Nat.div_one]
theorem root_less : Pure Tryd.prog 70 #[.agg (wA pf), .agg (wA 1)] (.agg (wA (pf - 1))) := by
  have h := less_p pf 1 pf_w (by decide)
  rwa [lssW_of (by decide) pf_w] at h
theorem root_pw (q : Nat) (h : q = 66) : Pure Tryd.prog 51 #[.agg fA, .agg (wA 7), .agg (wA ((pf - 1) / 2 ^ q))] (.agg (wA (rt 66))) := by
  subst h
  have h := spow_p 7 ((pf - 1) / 2 ^ 66) (by decide +kernel) (by decide +kernel)
  rwa [rt_top] at h
set_option maxRecDepth 100000 in
theorem sroot_p (k : Nat) (hk : k ≤ 66) : Pure Tryd.prog 24 #[.agg fA, .int .i64 (k : Int)] (.agg (wA (rt k))) := by
  intro w
  refine calls_H (args := [.agg fA, .int .i64 (k : Int)]) (noD) [] Tryd.func24 rfl (m := 46) rfl rfl (hold_nil _ _) ?_
  refine HC.seq ?_
  refine HC.region ?_
  refine HL.new (New.box rfl) (by decide) ?_
  intro b1 hb1
  refine HL.new (New.alloc al25) (by decide) ?_
  intro b2 hb2
  refine HL.nil ?_
  refine HQ.next ?_
  refine HC.seq ?_
  refine HC.region ?_
  refine HL.val (Val.run1 (fun u => Instr.fieldAt 27 u 0) (fun _ => rfl) rfl (v := .pointer (some ⟨b1, 0, none⟩)) (fun _ _ => rfl)) (by decide) ?_
  refine HL.val (Val.load_mid rfl (fun w hw => hw.at (i := 1) rfl) (wA pf) fA_P Tryd.underlying25 rfl (by kernel_rfl)) (by decide) ?_
  refine HL.val ((Val.build rfl (built_wl 1 (by decide)))) (by decide) ?_
  refine HL.val (Val.call en70 (root_less) rfl) (by decide) ?_
  refine HL.new (New.alloc al25) (by decide) ?_
  intro b3 hb3
  refine HL.put 0 rfl (Put.row rfl rfl (by kernel_rfl) rfl (wA_one _)) (.inl hb3) ?_
  simp only [List.set_cons_zero]
  refine HL.nil ?_
  refine HQ.next ?_
  refine HC.seq ?_
  refine HC.seq ?_
  refine HC.region ?_
  refine HL.val (Val.assign rfl) (by decide) ?_
  refine HL.nil ?_
  refine HQ.next ?_
  refine HC.block ?_
  refine HC.loop (ι := {p : Nat // p ≤ 66}) (fun p => 66 - p.1) (fun p => [(6, .int .i64 (p.1 : Int)), (1, .int .i64 (k : Int)), (2, .pointer (some ⟨b1, 0, none⟩)), (5, .pointer (some ⟨b3, 0, none⟩)), (4, .pointer (some ⟨b2, 0, none⟩))]) (fun p => [(b3, .cells (wA ((pf - 1) / 2 ^ p.1)) 25 (0, 0)), (b1, .cells fA 27 (0, 0)), (b2, .cells (wA 0) 25 (0, 0))]) ⟨0, Nat.zero_le _⟩ (fun ac wc ha hw => ⟨ha.subS ⟨rfl, rfl, rfl, rfl, rfl, trivial⟩, by have h := hw.pick [0, 2, 1] (by simp); rw [e_0] at h; exact h⟩) ?_
  rintro ⟨q, hq⟩
  dsimp only
  refine HC.seq ?_
  refine HC.seq ?_
  refine HC.region ?_
  refine HL.val (Val.move rfl) (by decide) ?_
  refine HL.val (Val.run1 (fun u => Instr.fieldAt 27 u 2) (fun _ => rfl) rfl (v := .pointer (some ⟨b1, 3, none⟩)) (fun _ _ => rfl)) (by decide) ?_
  refine HL.val (Val.load_cell rfl (fun w hw => hw.at (i := 1) rfl) rfl Tryd.underlying3 rfl) (by decide) ?_
  by_cases hq2 : q < 66
  · refine HL.val ((Val.lss rfl rfl).as (congrArg Value.bool ((lssN q 66).trans (decide_eq_true hq2)))) (by decide) ?_
    refine HL.nil ?_
    refine HQ.next ?_
    refine HC.yes rfl ?_
    refine HC.skip ?_
    refine HQ.next ?_
    refine HC.seq ?_
    refine HC.block ?_
    refine HC.region ?_
    refine HL.val (Val.ixAddrQ (0) (i := 0) (m := 2) (s := 1) (e := 23) rfl rfl Tryd.underlying25 (by kernel_rfl) (by decide) (by omega)) (by decide) ?_
    refine HL.val (Val.load_cell rfl (fun w hw => hw.at (i := 0) rfl) rfl Tryd.underlying23 rfl) (by decide) ?_
    refine HL.val ((Val.shrI rfl rfl (by decide) (by decide)).as (congrArg (Value.int .u64) (half_sh (((pf - 1) / 2 ^ q) % 18446744073709551616)))) (by decide) ?_
    refine HL.val (Val.ixAddrQ (1) (i := 1) (m := 2) (s := 1) (e := 23) rfl rfl Tryd.underlying25 (by kernel_rfl) (by decide) (by omega)) (by decide) ?_
    refine HL.val (Val.load_cell rfl (fun w hw => hw.at (i := 0) rfl) rfl Tryd.underlying23 rfl) (by decide) ?_
    refine HL.val ((Val.shlI rfl rfl (by decide) (by decide))) (by decide) ?_
    refine HL.val ((Val.orI rfl rfl).as (congrArg (Value.int .u64) (half_lo (Nat.lt_of_le_of_lt (Nat.div_le_self _ _) e_lt)))) (by decide) ?_
    refine HL.val (Val.ixAddrQ (1) (i := 1) (m := 2) (s := 1) (e := 23) rfl rfl Tryd.underlying25 (by kernel_rfl) (by decide) (by omega)) (by decide) ?_
    refine HL.val (Val.load_cell rfl (fun w hw => hw.at (i := 0) rfl) rfl Tryd.underlying23 rfl) (by decide) ?_
    refine HL.val ((Val.shrI rfl rfl (by decide) (by decide)).as (congrArg (Value.int .u64) (half_sh (((pf - 1) / 2 ^ q) / 18446744073709551616)))) (by decide) ?_
    refine HL.val ((Val.build rfl (built_w (((pf - 1) / 2 ^ q) / 2 % 18446744073709551616) (((pf - 1) / 2 ^ q) / 18446744073709551616 / 2))).as (congrArg Value.agg (show #[.int .u64 ((((pf - 1) / 2 ^ q) / 2 % 18446744073709551616 : Nat) : Int), .int .u64 ((((pf - 1) / 2 ^ q) / 18446744073709551616 / 2 : Nat) : Int)] = wA ((pf - 1) / 2 ^ (q + 1)) by rw [half_hi, Nat.div_div_eq_div_mul _ (2 ^ q) 2, ← Nat.pow_succ]; rfl))) (by decide) ?_
    refine HL.put 0 rfl (Put.row rfl rfl (by kernel_rfl) rfl (wA_one _)) (.inl hb3) ?_
    simp only [List.set_cons_zero]
    refine HL.nil ?_
    refine HQ.blockNormal ?_
    refine HQ.next ?_
    refine HC.region ?_
    refine HL.val (Val.move rfl) (by decide) ?_
    refine HL.val ((Val.addI rfl rfl).as (congrArg (Value.int .i64) (wrap1 q (by omega)))) (by decide) ?_
    refine HL.val (Val.assign rfl) (by decide) ?_
    refine HL.nil ?_
    exact ⟨fun ac wc ha hw => ⟨⟨q + 1, by omega⟩, by dsimp only; omega, ha.subS ⟨rfl, rfl, rfl, rfl, rfl, trivial⟩, hw.pick [0, 1, 2] (by simp)⟩⟩
  · refine HL.val ((Val.lss rfl rfl).as (congrArg Value.bool ((lssN q 66).trans (decide_eq_false hq2)))) (by decide) ?_
    refine HL.nil ?_
    refine HQ.next ?_
    refine HC.no rfl ?_
    refine HC.exit ?_
    refine HQ.thenExit ?_
    refine HQ.thenExit ?_
    refine HQ.blockExit ?_
    refine HQ.next ?_
    refine HC.seq ?_
    refine HC.region ?_
    refine HL.val (Val.load_row rfl (fun w hw => hw.at (i := 1) rfl) Tryd.underlying27 rfl (by kernel_rfl)) (by decide) ?_
    refine HL.val ((Val.build rfl (built_wl 7 (by decide)))) (by decide) ?_
    refine HL.val (Val.load_row rfl (fun w hw => hw.at (i := 0) rfl) Tryd.underlying25 rfl (by kernel_rfl)) (by decide) ?_
    refine HL.val (Val.call en51 (root_pw q (by omega)) rfl) (by decide) ?_
    refine HL.new (New.alloc al25) (by decide) ?_
    intro b4 hb4
    refine HL.put 0 rfl (Put.row rfl rfl (by kernel_rfl) rfl (wA_one _)) (.inl hb4) ?_
    simp only [List.set_cons_zero]
    refine HL.nil ?_
    refine HQ.next ?_
    refine HC.seq ?_
    refine HC.seq ?_
    refine HC.region ?_
    refine HL.val (Val.move rfl) (by decide) ?_
    refine HL.val (Val.assign rfl) (by decide) ?_
    refine HL.nil ?_
    refine HQ.next ?_
    refine HC.block ?_
    refine HC.loop (ι := {p : Nat // k ≤ p ∧ p ≤ 66}) (fun p => 66 - p.1) (fun p => [(8, .int .i64 (p.1 : Int)), (2, .pointer (some ⟨b1, 0, none⟩)), (7, .pointer (some ⟨b4, 0, none⟩)), (4, .pointer (some ⟨b2, 0, none⟩))]) (fun p => [(b4, .cells (wA (rt (66 - (p.1 - k)))) 25 (0, 0)), (b1, .cells fA 27 (0, 0)), (b2, .cells (wA 0) 25 (0, 0))]) ⟨k, Nat.le_refl _, hk⟩ (fun ac wc ha hw => ⟨ha.subS ⟨rfl, rfl, rfl, rfl, trivial⟩, by have h := hw.pick [0, 2, 3] (by simp); dsimp only; rw [Nat.sub_self, Nat.sub_zero]; exact h⟩) ?_
    rintro ⟨q, hq1, hq⟩
    dsimp only
    refine HC.seq ?_
    refine HC.seq ?_
    refine HC.region ?_
    refine HL.val (Val.move rfl) (by decide) ?_
    refine HL.val (Val.run1 (fun u => Instr.fieldAt 27 u 2) (fun _ => rfl) rfl (v := .pointer (some ⟨b1, 3, none⟩)) (fun _ _ => rfl)) (by decide) ?_
    refine HL.val (Val.load_cell rfl (fun w hw => hw.at (i := 1) rfl) rfl Tryd.underlying3 rfl) (by decide) ?_
    by_cases hq2 : q < 66
    · refine HL.val ((Val.lss rfl rfl).as (congrArg Value.bool ((lssN q 66).trans (decide_eq_true hq2)))) (by decide) ?_
      refine HL.nil ?_
      refine HQ.next ?_
      refine HC.yes rfl ?_
      refine HC.skip ?_
      refine HQ.next ?_
      refine HC.seq ?_
      refine HC.block ?_
      refine HC.region ?_
      refine HL.val (Val.load_row rfl (fun w hw => hw.at (i := 1) rfl) Tryd.underlying27 rfl (by kernel_rfl)) (by decide) ?_
      refine HL.val (Val.load_row rfl (fun w hw => hw.at (i := 0) rfl) Tryd.underlying25 rfl (by kernel_rfl)) (by decide) ?_
      refine HL.val (Val.load_row rfl (fun w hw => hw.at (i := 0) rfl) Tryd.underlying25 rfl (by kernel_rfl)) (by decide) ?_
      refine HL.val (Val.call en45 (smul_p ((rt (66 - (q - k)))) ((rt (66 - (q - k)))) (rt_lt (show 66 - (q - k) < 67 by omega)) (lt_b (rt_lt (show 66 - (q - k) < 67 by omega)))) rfl) (by decide) ?_
      refine HL.put 0 rfl (Put.row rfl rfl (by kernel_rfl) rfl (wA_one _)) (.inl hb4) ?_
      simp only [List.set_cons_zero]
      refine HL.nil ?_
      refine HQ.blockNormal ?_
      refine HQ.next ?_
      refine HC.region ?_
      refine HL.val (Val.move rfl) (by decide) ?_
      refine HL.val ((Val.addI rfl rfl).as (congrArg (Value.int .i64) (wrap1 q (by omega)))) (by decide) ?_
      refine HL.val (Val.assign rfl) (by decide) ?_
      refine HL.nil ?_
      have hr : (rt (66 - (q - k))) * (rt (66 - (q - k))) % pf = (rt (66 - ((q + 1) - k))) := by
        have h := rt_sq (66 - (q - k) - 1) (by omega)
        rw [show 66 - (q - k) - 1 + 1 = 66 - (q - k) by omega] at h
        rw [h, show 66 - (q - k) - 1 = 66 - (q + 1 - k) by omega]
      exact ⟨fun ac wc ha hw => ⟨⟨q + 1, by omega⟩, by dsimp only; omega, ha.subS ⟨rfl, rfl, rfl, rfl, trivial⟩, by have h := hw.pick [0, 1, 2] (by simp); simp only [List.filterMap_cons, List.filterMap_nil, List.getElem?_cons_zero, List.getElem?_cons_succ] at h; rw [hr] at h; exact h⟩⟩
    · refine HL.val ((Val.lss rfl rfl).as (congrArg Value.bool ((lssN q 66).trans (decide_eq_false hq2)))) (by decide) ?_
      refine HL.nil ?_
      refine HQ.next ?_
      refine HC.no rfl ?_
      refine HC.exit ?_
      refine HQ.thenExit ?_
      refine HQ.thenExit ?_
      refine HQ.blockExit ?_
      refine HQ.next ?_
      refine HC.seq ?_
      refine HC.region ?_
      refine HL.val (Val.load_row rfl (fun w hw => hw.at (i := 0) rfl) Tryd.underlying25 rfl (by kernel_rfl)) (by decide) ?_
      refine HL.put 2 rfl (Put.row rfl rfl (by kernel_rfl) rfl (wA_one _)) (.inl hb2) ?_
      simp only [List.set_cons_zero, List.set_cons_succ]
      refine HL.nil ?_
      refine HQ.next ?_
      refine HC.ret ?_
      obtain rfl : q = 66 := by omega
      exact HQ.retc 2 rfl rfl rfl Tryd.underlying25 rfl (by kernel_rfl) (pure_end (congrArg (fun x => Value.agg (wA (rt x))) (show 66 - (66 - k) = k by omega)))

set_option maxRecDepth 100000 in
theorem sof_good (x : Nat) (hx : x < pf) (lx : x < 18446744073709551616) : Pure Tryd.prog 50 #[.agg fA, .int .u64 (x : Int)] (.agg (wA (x))) := by
  intro w
  refine calls_H (args := [.agg fA, .int .u64 (x : Int)]) (noD) [] Tryd.func50 rfl (m := 17) rfl rfl (hold_nil _ _) ?_
  refine HC.seq ?_
  refine HC.region ?_
  refine HL.new (New.box rfl) (by decide) ?_
  intro b1 hb1
  refine HL.new (New.alloc al25) (by decide) ?_
  intro b2 hb2
  refine HL.nil ?_
  refine HQ.next ?_
  refine HC.seq ?_
  refine HC.seq ?_
  refine HC.region ?_
  refine HL.val (Val.move rfl) (by decide) ?_
  refine HL.val (Val.build rfl (built_wx x lx)) (by decide) ?_
  refine HL.val (Val.run1 (fun u => Instr.fieldAt 27 u 0) (fun _ => rfl) rfl (v := .pointer (some ⟨b1, 0, none⟩)) (fun _ _ => rfl)) (by decide) ?_
  refine HL.val (Val.load_mid rfl (fun w hw => hw.at (i := 1) rfl) (wA pf) fA_P Tryd.underlying25 rfl (by kernel_rfl)) (by decide) ?_
  refine HL.val ((Val.call en77 (below_p x pf) rfl).as (congrArg Value.bool (decide_eq_true hx))) (by decide) ?_
  refine HL.nil ?_
  refine HQ.next ?_
  refine HC.yes rfl ?_
  refine HC.seq ?_
  refine HC.region ?_
  refine HL.val (Val.move rfl) (by decide) ?_
  refine HL.val (Val.build rfl (built_wx x lx)) (by decide) ?_
  refine HL.put 0 rfl (Put.row rfl rfl (by kernel_rfl) rfl (wA_one _)) (.inl hb2) ?_
  simp only [List.set_cons_zero]
  refine HL.nil ?_
  refine HQ.next ?_
  refine HC.ret ?_
  refine HQ.thenRet ?_
  exact HQ.retc 0 rfl rfl rfl Tryd.underlying25 rfl (by kernel_rfl) (pure_end rfl)

theorem half_next (k : Nat) : halfP ^ k % pf * halfP % pf = halfP ^ (k + 1) % pf := by rw [Nat.mod_mul_mod, Nat.pow_succ]
theorem rt_half0 : rt 0 = halfP ^ 0 % pf := by decide +kernel
theorem half_pow (k : Nat) : halfP ^ k % pf * (2 ^ k % pf) % pf = 1 := by
  rw [← Nat.mul_mod, ← Nat.mul_pow, Nat.pow_mod, half_two, Nat.one_pow]; decide +kernel
set_option maxRecDepth 100000 in
theorem invTwo_any {b T m n : Nat} {w : World} (ht : RT w) (hh : HF w) (h0 : w.heap[b]? = some (.cells (rawC m) T (0, 0))) (hbT : 1 ≠ b) (hbH : 6 ≠ b) (hn : n < 18446744073709551616) :
    Calls Tryd.prog 92 #[.pointer (some ⟨b, 0, none⟩), .int .u64 (n : Int)] w fun e w' => e = .returned (.tuple #[]) ∧ Hold (fun k => k == b) w [(b, .cells (fpC (halfP ^ n % pf)) T (0, 0))] w' := by
  refine calls_H (args := [.pointer (some ⟨b, 0, none⟩), .int .u64 (n : Int)]) (fun k => k == b) [(b, .cells (rawC m) T (0, 0))] Tryd.func92 rfl (m := 15) rfl rfl (hold_one h0) ?_
  refine HC.seq ?_
  refine HC.region ?_
  refine HL.val (Val.move rfl) (by decide) ?_
  refine HL.callD en89 rfl (fun w hw => lift_one hw (i := 0) rfl (ownB b) (setOne_any (ht.sn hw.sn (beq_false_of_ne hbT)) (hw.at (i := 0) rfl) hbT (Nat.le_refl _))) (by decide) ?_
  simp only [List.set_cons_zero]
  refine HL.nil ?_
  refine HQ.next ?_
  refine HC.seq ?_
  refine HC.region ?_
  refine HL.val (Val.move rfl) (by decide) ?_
  refine HL.val (Val.move rfl) (by decide) ?_
  refine HL.nil ?_
  refine HQ.next ?_
  refine HC.block ?_
  refine HC.loop (ι := {p : Nat // p ≤ n}) (fun p => n - p.1) (fun p => [(0, .pointer (some ⟨b, 0, none⟩)), (8, .int .u64 (p.1 : Int)), (7, .int .u64 (n : Int))]) (fun p => [(b, .cells (fpC (halfP ^ p.1 % pf)) T (0, 0))]) ⟨0, Nat.zero_le _⟩ (fun ac wc ha hw => ⟨ha.subS ⟨rfl, rfl, rfl, trivial⟩, by have h := hw.pick [0] (by simp); rw [rt_half0] at h; exact h⟩) ?_
  rintro ⟨k, hk⟩
  dsimp only
  refine HC.seq ?_
  refine HC.region ?_
  by_cases hk2 : k < n
  · refine HL.val ((Val.lss rfl rfl).as (congrArg Value.bool ((lssN k n).trans (decide_eq_true hk2)))) (by decide) ?_
    refine HL.nil ?_
    refine HQ.next ?_
    refine HC.seq ?_
    refine HC.yes rfl ?_
    refine HC.skip ?_
    refine HQ.next ?_
    refine HC.seq ?_
    refine HC.block ?_
    refine HC.seq ?_
    refine HC.region ?_
    refine HL.val ((Val.load_cells (rawC (mont halfP)) rfl (fun w hw => by rw [half_mont]; exact ((hh.sn hw.sn (beq_false_of_ne hbH)) : RawAt w 6 0 halfM).cells) Tryd.underlying81 rfl (by kernel_rfl))) (by decide) ?_
    refine HL.new (New.alloc al81) (by decide) ?_
    intro b1 hb1
    refine HL.put 0 rfl (Put.row rfl rfl (by kernel_rfl) (szR _ _) (rawC_one _)) (.inl hb1) ?_
    simp only [List.set_cons_zero]
    refine HL.nil ?_
    refine HQ.next ?_
    refine HC.region ?_
    refine HL.val (Val.move rfl) (by decide) ?_
    refine HL.val (Val.move rfl) (by decide) ?_
    refine HL.callD en80 rfl (dst_eq (half_next k) (fpMulH (dstf1 1 rfl (ownB b)) (loc1 1 rfl) (Nat.mod_lt _ pf_pos) (loc1 0 rfl) half_lt)) (by decide) ?_
    simp only [List.set_cons_zero, List.set_cons_succ]
    refine HL.nil ?_
    refine HQ.blockNormal ?_
    refine HQ.next ?_
    refine HC.region ?_
    refine HL.val ((Val.addI rfl rfl).as (congrArg (Value.int .u64) (wrapU k (by omega)))) (by decide) ?_
    refine HL.val (Val.move rfl) (by decide) ?_
    refine HL.nil ?_
    exact ⟨fun ac wc ha hw => ⟨⟨k + 1, by omega⟩, by dsimp only; omega, ha.subS ⟨rfl, rfl, rfl, trivial⟩, hw.pick [1] (by simp)⟩⟩
  · refine HL.val ((Val.lss rfl rfl).as (congrArg Value.bool ((lssN k n).trans (decide_eq_false hk2)))) (by decide) ?_
    refine HL.nil ?_
    refine HQ.next ?_
    refine HC.seq ?_
    refine HC.no rfl ?_
    refine HC.exit ?_
    refine HQ.thenExit ?_
    refine HQ.thenExit ?_
    refine HQ.blockExit ?_
    obtain rfl : k = n := by omega
    exact HQ.end0 rfl (fun w hw => ⟨rfl, hw⟩)

set_option maxRecDepth 100000 in
theorem invTwo_good {n : Nat} {w : World} (ht : RT w) (hh : HF w) (hn : n ≤ 128) : Calls Tryd.prog 53 #[.int .u64 (n : Int)] w fun e w' => e = .returned (byV 16 (halfP ^ n % pf)) ∧ Below w.heap.size w w' := by
  refine calls_H (args := [.int .u64 (n : Int)]) (noD) [] Tryd.func53 rfl (m := 11) rfl rfl (hold_nil _ _) ?_
  refine HC.seq ?_
  refine HC.region ?_
  refine HL.new (New.alloc al30) (by decide) ?_
  intro b1 hb1
  refine HL.nil ?_
  refine HQ.next ?_
  refine HC.seq ?_
  refine HC.seq ?_
  refine HC.region ?_
  refine HL.val (Val.move rfl) (by decide) ?_
  refine HL.val ((Val.gtr rfl rfl).as (congrArg Value.bool ((gtrN 128 n).trans (decide_eq_false (by omega))))) (by decide) ?_
  refine HL.nil ?_
  refine HQ.next ?_
  refine HC.no rfl ?_
  refine HC.skip ?_
  refine HQ.next ?_
  refine HC.seq ?_
  refine HC.region ?_
  refine HL.new (New.alloc al81) (by decide) ?_
  intro b2 hb2
  refine HL.nil ?_
  refine HQ.next ?_
  refine HC.seq ?_
  refine HC.region ?_
  refine HL.val (Val.move rfl) (by decide) ?_
  refine HL.callD en92 rfl (fun w hw => lift_one hw (i := 0) rfl (.inl hb2) (invTwo_any (ht.sn hw.sn rfl) (hh.sn hw.sn rfl) (hw.at (i := 0) rfl) (Nat.ne_of_lt (Nat.lt_of_lt_of_le ht.lt hb2)) (Nat.ne_of_lt (Nat.lt_of_lt_of_le hh.lt hb2)) (by omega))) (by decide) ?_
  simp only [List.set_cons_zero]
  refine HL.nil ?_
  refine HQ.next ?_
  refine HC.seq ?_
  refine HC.region ?_
  refine HL.val (Val.load_row rfl (fun w hw => hw.at (i := 0) rfl) Tryd.underlying81 rfl (by kernel_rfl)) (by decide) ?_
  refine HL.val (Val.call en69 (told_p ((halfP ^ n % pf)) (Nat.mod_lt _ pf_pos)) rfl) (by decide) ?_
  refine HL.put 1 rfl (Put.row rfl rfl (by kernel_rfl) (szB _ _ _) (oneB _ _)) (.inl hb1) ?_
  simp only [List.set_cons_zero, List.set_cons_succ]
  refine HL.nil ?_
  refine HQ.next ?_
  refine HC.ret ?_
  exact HQ.retc 1 rfl rfl rfl Tryd.underlying30 rfl (by kernel_rfl) (pure_end rfl)

/-- What the program has for the inverse of a number. -/
noncomputable def invU (x : Nat) : Nat := if x ≤ 8 then iv (x - 1) else pwX x invE
set_option maxRecDepth 100000 in
theorem iv_mul : ∀ i, i < 8 → iv i * (i + 1) % pf = 1 := by decide +kernel
theorem invU_lt {x : Nat} (h0 : 0 < x) : invU x < pf := by
  unfold invU
  split
  · exact iv_lt (by omega)
  · exact pwX_lt _ _
theorem invU_mul {x : Nat} (h0 : 0 < x) (hx : x < pf) : invU x * x % pf = 1 := by
  unfold invU
  split
  · have := iv_mul (x - 1) (by omega)
    rwa [show x - 1 + 1 = x by omega] at this
  · rw [Nat.mul_comm]; exact inv_mul hx (by omega)

set_option maxRecDepth 100000 in
theorem invU_small {b T m x : Nat} {w : World} (_hg : GR w) (hv : IV w) (h0 : w.heap[b]? = some (.cells (rawC m) T (0, 0))) (_hbR : 8 ≠ b) (hbI : 4 ≠ b) (h0x : 0 < x) (_hx : x < pf) (lx : x < 18446744073709551616) (hs : x ≤ 8) :
    Calls Tryd.prog 91 #[.pointer (some ⟨b, 0, none⟩), .int .u64 (x : Int)] w fun e w' => e = .returned (.tuple #[]) ∧ Hold (fun k => k == b) w [(b, .cells (fpC (invU x)) T (0, 0))] w' := by
  refine calls_H (args := [.pointer (some ⟨b, 0, none⟩), .int .u64 (x : Int)]) (fun k => k == b) [(b, .cells (rawC m) T (0, 0))] Tryd.func91 rfl (m := 26) rfl rfl (hold_one h0) ?_
  refine HC.seq ?_
  refine HC.region ?_
  refine HL.val (Val.move rfl) (by decide) ?_
  refine HL.val ((Val.lss rfl rfl).as (congrArg Value.bool ((lssN 0 x).trans (decide_eq_true h0x)))) (by decide) ?_
  refine HL.val (Val.move rfl) (by decide) ?_
  refine HL.valg rfl (Val.move rfl) (by decide) ?_
  refine HL.valg rfl ((Val.leq rfl rfl).as (congrArg Value.bool ((leqN x 8).trans (decide_eq_true hs)))) (by decide) ?_
  refine HL.val (Val.pickT rfl rfl) (by decide) ?_
  refine HL.nil ?_
  refine HQ.next ?_
  refine HC.yes rfl ?_
  refine HC.region ?_
  refine HL.val (Val.move rfl) (by decide) ?_
  refine HL.val (Val.move rfl) (by decide) ?_
  refine HL.val ((Val.subI rfl rfl).as (congrArg (Value.int .u64) (wrapUs h0x lx))) (by decide) ?_
  refine HL.val (Val.ixAddrQ ((x - 1) * 2) (i := x - 1) (m := 8) (s := 2) (e := 81) rfl rfl Tryd.underlying122 (by kernel_rfl) (by omega) (by omega)) (by decide) ?_
  refine HL.val (Val.load_cells (rawC (mont (iv (x - 1)))) rfl (fun w hw => ((hv.sn hw.sn (beq_false_of_ne hbI)) (x - 1) (by omega)).cells) Tryd.underlying81 rfl (by kernel_rfl)) (by decide) ?_
  refine HL.val (Val.nilCheck rfl) (by decide) ?_
  refine HL.put 0 rfl (Put.row rfl rfl (by kernel_rfl) (szR _ _) (rawC_one _)) (ownB b) ?_
  simp only [List.set_cons_zero]
  refine HL.nil ?_
  exact HQ.end0 rfl (fun w hw => ⟨rfl, by have h := hw.pick [0] (by simp); rw [show invU x = iv (x - 1) from if_pos hs]; exact h⟩)

set_option maxRecDepth 100000 in
theorem invU_great {b T m x : Nat} {w : World} (hg : GR w) (_hv : IV w) (h0 : w.heap[b]? = some (.cells (rawC m) T (0, 0))) (hbR : 8 ≠ b) (_hbI : 4 ≠ b) (h0x : 0 < x) (hx : x < pf) (lx : x < 18446744073709551616) (hs : ¬ x ≤ 8) :
    Calls Tryd.prog 91 #[.pointer (some ⟨b, 0, none⟩), .int .u64 (x : Int)] w fun e w' => e = .returned (.tuple #[]) ∧ Hold (fun k => k == b) w [(b, .cells (fpC (invU x)) T (0, 0))] w' := by
  refine calls_H (args := [.pointer (some ⟨b, 0, none⟩), .int .u64 (x : Int)]) (fun k => k == b) [(b, .cells (rawC m) T (0, 0))] Tryd.func91 rfl (m := 26) rfl rfl (hold_one h0) ?_
  refine HC.seq ?_
  refine HC.region ?_
  refine HL.val (Val.move rfl) (by decide) ?_
  refine HL.val ((Val.lss rfl rfl).as (congrArg Value.bool ((lssN 0 x).trans (decide_eq_true h0x)))) (by decide) ?_
  refine HL.val (Val.move rfl) (by decide) ?_
  refine HL.valg rfl (Val.move rfl) (by decide) ?_
  refine HL.valg rfl ((Val.leq rfl rfl).as (congrArg Value.bool ((leqN x 8).trans (decide_eq_false hs)))) (by decide) ?_
  refine HL.val (Val.pickT rfl rfl) (by decide) ?_
  refine HL.nil ?_
  refine HQ.next ?_
  refine HC.no rfl ?_
  refine HC.seq ?_
  refine HC.region ?_
  refine HL.val (Val.move rfl) (by decide) ?_
  refine HL.val (Val.move rfl) (by decide) ?_
  refine HL.callD en76 rfl (fun w hw => lift_one hw (i := 0) rfl (ownB b) (setU_any (hw.at (i := 0) rfl) (hg.sn hw.sn (beq_false_of_ne hbR)) hbR hx lx)) (by decide) ?_
  simp only [List.set_cons_zero]
  refine HL.val (Val.assign rfl) (by decide) ?_
  refine HL.nil ?_
  refine HQ.next ?_
  refine HC.seq ?_
  refine HC.seq ?_
  refine HC.region ?_
  refine HL.val (Val.move rfl) (by decide) ?_
  refine HL.val (nilNe rfl (by kernel_rfl)) (by decide) ?_
  refine HL.nil ?_
  refine HQ.next ?_
  refine HC.no rfl ?_
  refine HC.skip ?_
  refine HQ.next ?_
  refine HC.region ?_
  refine HL.val (Val.move rfl) (by decide) ?_
  refine HL.val (Val.move rfl) (by decide) ?_
  refine HL.callD en93 rfl (fun w hw => lift_one hw (i := 0) rfl (ownB b) (inv_self (hw.at (i := 0) rfl) hx)) (by decide) ?_
  simp only [List.set_cons_zero]
  refine HL.nil ?_
  exact HQ.end0 rfl (fun w hw => ⟨rfl, by have h := hw.pick [0] (by simp); rw [show invU x = pwX x invE from if_neg hs]; exact h⟩)

theorem invU_any {b T m x : Nat} {w : World} (hg : GR w) (hv : IV w) (h0 : w.heap[b]? = some (.cells (rawC m) T (0, 0))) (hbR : 8 ≠ b) (hbI : 4 ≠ b) (h0x : 0 < x) (hx : x < pf) (lx : x < 18446744073709551616) :
    Calls Tryd.prog 91 #[.pointer (some ⟨b, 0, none⟩), .int .u64 (x : Int)] w fun e w' => e = .returned (.tuple #[]) ∧ Hold (fun k => k == b) w [(b, .cells (fpC (invU x)) T (0, 0))] w' := by
  by_cases hs : x ≤ 8
  · exact invU_small hg hv h0 hbR hbI h0x hx lx hs
  · exact invU_great hg hv h0 hbR hbI h0x hx lx hs

theorem invOf_good {x : Nat} {w : World} (hg : GR w) (hv : IV w) (h0x : 0 < x) (hx : x < pf) (lx : x < 18446744073709551616) : Calls Tryd.prog 52 #[.int .u64 (x : Int)] w fun e w' => e = .returned (byV 16 (invU x)) ∧ Below w.heap.size w w' := by
  refine calls_H (args := [.int .u64 (x : Int)]) (noD) [] Tryd.func52 rfl (m := 8) rfl rfl (hold_nil _ _) ?_
  refine HC.seq ?_
  refine HC.region ?_
  refine HL.new (New.alloc al30) (by decide) ?_
  intro b1 hb1
  refine HL.nil ?_
  refine HQ.next ?_
  refine HC.seq ?_
  refine HC.region ?_
  refine HL.new (New.alloc al81) (by decide) ?_
  intro b2 hb2
  refine HL.nil ?_
  refine HQ.next ?_
  refine HC.seq ?_
  refine HC.region ?_
  refine HL.val (Val.move rfl) (by decide) ?_
  refine HL.callD en91 rfl (fun w hw => lift_one hw (i := 0) rfl (.inl hb2) (invU_any (hg.sn hw.sn rfl) (hv.sn hw.sn rfl) (hw.at (i := 0) rfl) (Nat.ne_of_lt (Nat.lt_of_lt_of_le hg.lt hb2)) (Nat.ne_of_lt (Nat.lt_of_lt_of_le hv.lt hb2)) h0x hx lx)) (by decide) ?_
  simp only [List.set_cons_zero]
  refine HL.nil ?_
  refine HQ.next ?_
  refine HC.seq ?_
  refine HC.region ?_
  refine HL.val (Val.load_row rfl (fun w hw => hw.at (i := 0) rfl) Tryd.underlying81 rfl (by kernel_rfl)) (by decide) ?_
  refine HL.val (Val.call en69 (told_p ((invU x)) (invU_lt h0x)) rfl) (by decide) ?_
  refine HL.put 1 rfl (Put.row rfl rfl (by kernel_rfl) (szB _ _ _) (oneB _ _)) (.inl hb1) ?_
  simp only [List.set_cons_zero, List.set_cons_succ]
  refine HL.nil ?_
  refine HQ.next ?_
  refine HC.ret ?_
  exact HQ.retc 1 rfl rfl rfl Tryd.underlying30 rfl (by kernel_rfl) (pure_end rfl)

theorem HQ.ret4 {P : Program} {D : Nat → Bool} {w0 : World} {n : Nat} {σ : List (Nat × Value)} {η : List (Nat × Obj)} {fn : Func} {t u t3 t4 : Tmp} {v v2 v3 v4 : Value} {R : Ending → World → Prop} (hr : fn.results = #[.tmp t, .tmp u, .tmp t3, .tmp t4]) (hv : σ.lookup t = some v) (hv2 : σ.lookup u = some v2) (hv3 : σ.lookup t3 = some v3) (hv4 : σ.lookup t4 = some v4)
    (h : ∀ w, Hold D w0 η w → R (.returned (.tuple #[v, v2, v3, v4])) w) : HQ (bodyPost P fn R) .ret D w0 n σ η := ⟨fun a w ha hw => by
  refine bodyPost_ret (v := .tuple #[v, v2, v3, v4]) ?_ ha.defers (h w hw)
  have h1 : a.tmps[t]?.getD undef = v := by simp [ha.held t _ hv]
  have h2 : a.tmps[u]?.getD undef = v2 := by simp [ha.held u _ hv2]
  have h3 : a.tmps[t3]?.getD undef = v3 := by simp [ha.held t3 _ hv3]
  have h4 : a.tmps[t4]?.getD undef = v4 := by simp [ha.held t4 _ hv4]
  simp [results, hr, h1, h2, h3, h4]⟩
theorem tells_good {x y : Nat} {w : World} (hg : GR w) (ht : RT w) (px : x < pf) (py : y < pf) : Calls Tryd.prog 26 #[byV 16 x, byV 16 y] w fun e w' => e = .returned (.tuple #[.bool (decide (x = 0)), .bool (decide (x = rt 0)), .bool (decide (x = y)), .bool true]) ∧ Below w.heap.size w w' := by
  refine calls_H (args := [byV 16 x, byV 16 y]) (noD) [] Tryd.func26 rfl (m := 31) rfl rfl (hold_nil _ _) ?_
  refine HC.seq ?_
  refine HC.region ?_
  refine HL.new (New.box rfl) (by decide) ?_
  intro b1 hb1
  refine HL.new (New.box rfl) (by decide) ?_
  intro b2 hb2
  refine HL.val (Val.assign rfl) (by decide) ?_
  refine HL.val (Val.assign rfl) (by decide) ?_
  refine HL.val (Val.assign rfl) (by decide) ?_
  refine HL.val (Val.assign rfl) (by decide) ?_
  refine HL.nil ?_
  refine HQ.next ?_
  refine HC.seq ?_
  refine HC.region ?_
  refine HL.val (Val.load_row rfl (fun w hw => hw.at (i := 1) rfl) Tryd.underlying30 rfl (by kernel_rfl)) (by decide) ?_
  refine HL.val (Val.calls en71 (fun w hw => ofT (hg.sn hw.sn rfl) px) rfl) (by decide) ?_
  refine HL.val (Val.move rfl) (by decide) ?_
  refine HL.val (Val.extract rfl rfl) (by decide) ?_
  refine HL.val (Val.extract rfl rfl) (by decide) ?_
  refine HL.new (New.alloc al81) (by decide) ?_
  intro b3 hb3
  refine HL.put 0 rfl (Put.row rfl rfl (by kernel_rfl) (szR _ _) (rawC_one _)) (.inl hb3) ?_
  simp only [List.set_cons_zero]
  refine HL.val (Val.assign rfl) (by decide) ?_
  refine HL.nil ?_
  refine HQ.next ?_
  refine HC.seq ?_
  refine HC.region ?_
  refine HL.val (Val.load_row rfl (fun w hw => hw.at (i := 1) rfl) Tryd.underlying30 rfl (by kernel_rfl)) (by decide) ?_
  refine HL.val (Val.calls en71 (fun w hw => ofT (hg.sn hw.sn rfl) py) rfl) (by decide) ?_
  refine HL.val (Val.move rfl) (by decide) ?_
  refine HL.val (Val.extract rfl rfl) (by decide) ?_
  refine HL.val (Val.extract rfl rfl) (by decide) ?_
  refine HL.new (New.alloc al81) (by decide) ?_
  intro b4 hb4
  refine HL.put 0 rfl (Put.row rfl rfl (by kernel_rfl) (szR _ _) (rawC_one _)) (.inl hb4) ?_
  simp only [List.set_cons_zero]
  refine HL.val (Val.assign rfl) (by decide) ?_
  refine HL.nil ?_
  refine HQ.next ?_
  refine HC.seq ?_
  refine HC.seq ?_
  refine HC.region ?_
  refine HL.val (Val.move rfl) (by decide) ?_
  refine HL.val (Val.not rfl) (by decide) ?_
  refine HL.val (Val.move rfl) (by decide) ?_
  refine HL.valg rfl (Val.move rfl) (by decide) ?_
  refine HL.valg rfl (Val.not rfl) (by decide) ?_
  refine HL.val (Val.pickF rfl rfl) (by decide) ?_
  refine HL.nil ?_
  refine HQ.next ?_
  refine HC.no rfl ?_
  refine HC.skip ?_
  refine HQ.next ?_
  refine HC.seq ?_
  refine HC.region ?_
  refine HL.val (Val.calls en72 (fun w hw => isZero_any (RawAt.row (hw.at (i := 1) rfl)) px) rfl) (by decide) ?_
  refine HL.val (Val.calls en73 (fun w hw => isOne_any (ht.sn hw.sn rfl) (RawAt.row (hw.at (i := 1) rfl)) px) rfl) (by decide) ?_
  refine HL.val (Val.calls en74 (fun w hw => isEqual_any (RawAt.row (hw.at (i := 1) rfl)) px (RawAt.row (hw.at (i := 0) rfl)) py) rfl) (by decide) ?_
  refine HL.val (Val.assign rfl) (by decide) ?_
  refine HL.val (Val.assign rfl) (by decide) ?_
  refine HL.val (Val.assign rfl) (by decide) ?_
  refine HL.val (Val.assign rfl) (by decide) ?_
  refine HL.nil ?_
  refine HQ.next ?_
  refine HC.ret ?_
  exact HQ.ret4 rfl rfl rfl rfl rfl (pure_end rfl)
end Go.Proofs.YtgdfdkpkhjbibaaDoor
