/-
  FnToBytes: an element's bytes are told, below the prime, in 32 bytes alone: the law answers true. No condition.
-/
import Derived.Test.YteehdjkmjncehaaTb
namespace Go.Proofs.Yteehdjkmjncehaa
open Go.ChangeShapes Go.WideShapes Go.ChangeAt Go.RowKit

theorem own1 : ownKnob Try.prog.godebug = none := by kernel_rfl
theorem laidOut1 : laidOutB Try.prog = true := by kernel_rfl

/-- A number's bytes, as whole numbers. -/
def bnum (v : Nat) : List Int := (List.range 32).map fun i => ((v / 256 ^ i % 256 : Nat) : Int)
theorem bnum_len (v : Nat) : (bnum v).length = 32 := by unfold bnum; simp
theorem by_nums (v : Nat) : ∀ i, i < 32 → (byA 32 v)[i]? = some (.int .u8 ((bnum v).getD i 0)) := fun i hi => by
  rw [byA_get hi]
  unfold bnum bv
  simp [List.getD, hi]
set_option maxRecDepth 100000 in
set_option maxHeartbeats 1600000 in
theorem fnToBytes (n : Int) (x : Nat) (hx : x < 2 ^ 256) : Pure Try.prog 5 #[.int .i64 n, byV 32 x] (.bool true) := by
  intro w
  by_cases h0 : n < 0
  · refine calls_H (args := [.int .i64 n, byV 32 x]) noD [] Try.func5 rfl (m := 46) rfl rfl (hold_nil _ _) ?_
    refine HC.seq ?_
    refine HC.region ?_
    refine HL.new (New.box rfl) (by decide) ?_
    intro b1 hb1
    refine HL.val (Val.assign rfl) (by decide) ?_
    refine HL.nil ?_
    refine HQ.next ?_
    refine HC.seq ?_
    refine HC.seq ?_
    refine HC.region ?_
    refine HL.val (Val.move rfl) (by decide) ?_
    refine HL.val ((Val.lss rfl rfl).as (congrArg Value.bool (decide_eq_true h0))) (by decide) ?_
    refine HL.val (Val.move rfl) (by decide) ?_
    refine HL.skip rfl (by decide) ?_
    refine HL.skip rfl (by decide) ?_
    refine HL.val (Val.pickT rfl rfl) (by decide) ?_
    refine HL.nil ?_
    refine HQ.next ?_
    refine HC.yes rfl ?_
    refine HC.seq ?_
    refine HC.region ?_
    refine HL.val (Val.assign rfl) (by decide) ?_
    refine HL.nil ?_
    refine HQ.next ?_
    refine HC.ret ?_
    refine HQ.thenRet ?_
    exact HQ.ret1 rfl rfl (pure_end rfl)
  · by_cases h1 : 100 < n
    · refine calls_H (args := [.int .i64 n, byV 32 x]) noD [] Try.func5 rfl (m := 46) rfl rfl (hold_nil _ _) ?_
      refine HC.seq ?_
      refine HC.region ?_
      refine HL.new (New.box rfl) (by decide) ?_
      intro b1 hb1
      refine HL.val (Val.assign rfl) (by decide) ?_
      refine HL.nil ?_
      refine HQ.next ?_
      refine HC.seq ?_
      refine HC.seq ?_
      refine HC.region ?_
      refine HL.val (Val.move rfl) (by decide) ?_
      refine HL.val ((Val.lss rfl rfl).as (congrArg Value.bool (decide_eq_false h0))) (by decide) ?_
      refine HL.val (Val.move rfl) (by decide) ?_
      refine HL.valg rfl (Val.move rfl) (by decide) ?_
      refine HL.valg rfl ((Val.gtr rfl rfl).as (congrArg Value.bool (decide_eq_true h1))) (by decide) ?_
      refine HL.val (Val.pickF rfl rfl) (by decide) ?_
      refine HL.nil ?_
      refine HQ.next ?_
      refine HC.yes rfl ?_
      refine HC.seq ?_
      refine HC.region ?_
      refine HL.val (Val.assign rfl) (by decide) ?_
      refine HL.nil ?_
      refine HQ.next ?_
      refine HC.ret ?_
      refine HQ.thenRet ?_
      exact HQ.ret1 rfl rfl (pure_end rfl)
    · by_cases h2 : n = 32
      · subst h2
        refine calls_H (args := [.int .i64 32, byV 32 x]) noD [] Try.func5 rfl (m := 46) rfl rfl (hold_nil _ _) ?_
        refine HC.seq ?_
        refine HC.region ?_
        refine HL.new (New.box rfl) (by decide) ?_
        intro b1 hb1
        refine HL.val (Val.assign rfl) (by decide) ?_
        refine HL.nil ?_
        refine HQ.next ?_
        refine HC.seq ?_
        refine HC.seq ?_
        refine HC.region ?_
        refine HL.val (Val.move rfl) (by decide) ?_
        refine HL.val (Val.lss rfl rfl) (by decide) ?_
        refine HL.val (Val.move rfl) (by decide) ?_
        refine HL.valg rfl (Val.move rfl) (by decide) ?_
        refine HL.valg rfl (Val.gtr rfl rfl) (by decide) ?_
        refine HL.val (Val.pickF rfl rfl) (by decide) ?_
        refine HL.nil ?_
        refine HQ.next ?_
        refine HC.no rfl ?_
        refine HC.skip ?_
        refine HQ.next ?_
        refine HC.seq ?_
        refine HC.region ?_
        refine HL.val (Val.move rfl) (by decide) ?_
        refine HL.val (Val.load_row rfl (fun w hw => hw.at (i := 0) rfl) Try.underlying22 rfl (sz22 _)) (by decide) ?_
        refine HL.call (f := 24) en24 rfl (implToBytes_32H hx) (by decide) ?_
        rintro bt1 hbt1
        refine HL.val (Val.move rfl) (by decide) ?_
        refine HL.val (Val.extract rfl rfl) (by decide) ?_
        refine HL.val (Val.extract rfl rfl) (by decide) ?_
        refine HL.val (Val.assign rfl) (by decide) ?_
        refine HL.val (Val.assign rfl) (by decide) ?_
        refine HL.nil ?_
        refine HQ.next ?_
        refine HC.seq ?_
        refine HC.region ?_
        refine HL.val (Val.load_row rfl (fun w hw => hw.at (i := 1) rfl) Try.underlying22 rfl (sz22 _)) (by decide) ?_
        refine HL.call (f := 24) en24 rfl (implToBytes_32H hx) (by decide) ?_
        rintro bt2 hbt2
        refine HL.val (Val.move rfl) (by decide) ?_
        refine HL.val (Val.extract rfl rfl) (by decide) ?_
        refine HL.val (Val.extract rfl rfl) (by decide) ?_
        refine HL.val (Val.assign rfl) (by decide) ?_
        refine HL.val (Val.assign rfl) (by decide) ?_
        refine HL.nil ?_
        refine HQ.next ?_
        refine HC.seq ?_
        refine HC.seq ?_
        refine HC.region ?_
        refine HL.val (Val.move rfl) (by decide) ?_
        refine HL.val (Val.neqI rfl rfl) (by decide) ?_
        refine HL.nil ?_
        refine HQ.next ?_
        refine HC.no rfl ?_
        refine HC.skip ?_
        refine HQ.next ?_
        refine HC.seq ?_
        refine HC.region ?_
        refine HL.val (Val.load_row rfl (fun w hw => hw.at (i := 2) rfl) Try.underlying22 rfl (sz22 _)) (by decide) ?_
        refine HL.val (Val.call en23 (of23 x) rfl) (by decide) ?_
        refine HL.val (Val.call en22 (mod22 x hx) rfl) (by decide) ?_
        refine HL.val (Val.call en25 (bytes25 ((x % p25))) rfl) (by decide) ?_
        refine HL.new (New.alloc al22) (by decide) ?_
        intro b2 hb2
        refine HL.put 0 rfl (Put.row rfl rfl (sz22 _) (eqsz32 _ _) (one32 _)) (.inl hb2) ?_
        simp only [List.set_cons_zero]
        refine HL.nil ?_
        refine HQ.next ?_
        refine HC.seq ?_
        refine HC.draw0 8 (by kernel_rfl) (by kernel_rfl) ?_
        simp only [List.take, List.drop]
        refine HV.val (Val.move rfl) (by decide) ?_
        refine HV.val (Val.move rfl) (by decide) ?_
        refine HV.valg rfl (Val.move rfl) (by decide) ?_
        refine HV.valg rfl (Val.strOf (bnum (x % p25)) rfl Try.underlying31 Try.underlying5 Try.underlying9 (bnum_len _) (fun w hw => row_cells (hw.at (i := 2) rfl) (by_nums _))) (by decide) ?_
        refine HV.valg rfl (Val.sliceAll (s := 1) rfl Try.underlying22 (by kernel_rfl)) (by decide) ?_
        refine HV.valg rfl (Val.strOf (bnum (x % p25)) rfl Try.underlying31 Try.underlying5 Try.underlying9 (bnum_len _) (fun w hw => row_cells (hw.at (i := 0) rfl) (by_nums _))) (by decide) ?_
        refine HV.valg rfl ((Val.eqlStr rfl rfl).as (congrArg Value.bool (beq_self_eq_true _))) (by decide) ?_
        refine HV.val (Val.pickT rfl rfl) (by decide) ?_
        refine HV.tail0 ?_
        refine HL.val (Val.assign rfl) (by decide) ?_
        refine HL.nil ?_
        refine HQ.next ?_
        refine HC.ret ?_
        exact HQ.ret1 rfl rfl (pure_end rfl)
      · obtain ⟨m, rfl⟩ : ∃ m : Nat, n = (m : Int) := ⟨n.toNat, by omega⟩
        have hm : m ≤ 100 := by omega
        have h32 : m ≠ 32 := by omega
        refine calls_H (args := [.int .i64 (m : Int), byV 32 x]) noD [] Try.func5 rfl (m := 46) rfl rfl (hold_nil _ _) ?_
        refine HC.seq ?_
        refine HC.region ?_
        refine HL.new (New.box rfl) (by decide) ?_
        intro b1 hb1
        refine HL.val (Val.assign rfl) (by decide) ?_
        refine HL.nil ?_
        refine HQ.next ?_
        refine HC.seq ?_
        refine HC.seq ?_
        refine HC.region ?_
        refine HL.val (Val.move rfl) (by decide) ?_
        refine HL.val ((Val.lss rfl rfl).as (congrArg Value.bool (decide_eq_false (by omega)))) (by decide) ?_
        refine HL.val (Val.move rfl) (by decide) ?_
        refine HL.valg rfl (Val.move rfl) (by decide) ?_
        refine HL.valg rfl ((Val.gtr rfl rfl).as (congrArg Value.bool (decide_eq_false (by omega)))) (by decide) ?_
        refine HL.val (Val.pickF rfl rfl) (by decide) ?_
        refine HL.nil ?_
        refine HQ.next ?_
        refine HC.no rfl ?_
        refine HC.skip ?_
        refine HQ.next ?_
        refine HC.seq ?_
        refine HC.region ?_
        refine HL.val (Val.move rfl) (by decide) ?_
        refine HL.val (Val.load_row rfl (fun w hw => hw.at (i := 0) rfl) Try.underlying22 rfl (sz22 _)) (by decide) ?_
        refine HL.val (Val.call en24 (implToBytes_bad m x hm h32) rfl) (by decide) ?_
        refine HL.val (Val.move rfl) (by decide) ?_
        refine HL.val (Val.extract rfl rfl) (by decide) ?_
        refine HL.val (Val.extract rfl rfl) (by decide) ?_
        refine HL.val (Val.assign rfl) (by decide) ?_
        refine HL.val (Val.assign rfl) (by decide) ?_
        refine HL.nil ?_
        refine HQ.next ?_
        refine HC.seq ?_
        refine HC.region ?_
        refine HL.val (Val.load_row rfl (fun w hw => hw.at (i := 0) rfl) Try.underlying22 rfl (sz22 _)) (by decide) ?_
        refine HL.call (f := 24) en24 rfl (implToBytes_32H hx) (by decide) ?_
        rintro bt2 hbt2
        refine HL.val (Val.move rfl) (by decide) ?_
        refine HL.val (Val.extract rfl rfl) (by decide) ?_
        refine HL.val (Val.extract rfl rfl) (by decide) ?_
        refine HL.val (Val.assign rfl) (by decide) ?_
        refine HL.val (Val.assign rfl) (by decide) ?_
        refine HL.nil ?_
        refine HQ.next ?_
        refine HC.seq ?_
        refine HC.seq ?_
        refine HC.region ?_
        refine HL.val (Val.move rfl) (by decide) ?_
        refine HL.val ((Val.neqI rfl rfl).as (congrArg Value.bool (neqL h32))) (by decide) ?_
        refine HL.nil ?_
        refine HQ.next ?_
        refine HC.yes rfl ?_
        refine HC.seq ?_
        refine HC.region ?_
        refine HL.val (Val.move rfl) (by decide) ?_
        refine HL.val (Val.not rfl) (by decide) ?_
        refine HL.val (Val.move rfl) (by decide) ?_
        refine HL.valg rfl (Val.move rfl) (by decide) ?_
        refine HL.val (Val.pickT rfl rfl) (by decide) ?_
        refine HL.val (Val.assign rfl) (by decide) ?_
        refine HL.nil ?_
        refine HQ.next ?_
        refine HC.ret ?_
        refine HQ.thenRet ?_
        exact HQ.ret1 rfl rfl (pure_end rfl)
set_option maxRecDepth 100000 in
theorem fnToBytes_lifted (os : Os) (started : os.Started) (H : Type) (enc : TypeId × Value → H) :
    ReturnsInHanded {} Try.checked os 5 .any (Rows.fnToBytesSpec.pre6 enc Try.prog Try.f5 Rows.fnToBytesRow.domain false) (Rows.fnToBytesSpec.post enc Try.prog Try.f5 false true false false) := by
  refine returnsInHanded_of_change (C := Try.checked) own1 started (by kernel_rfl) Try.func5
    (ChangeSpec.witness6 (enc := enc) (C := Try.checked) false ⟨#[], #[.int .i64 0, byV 32 0], []⟩ 8 (by kernel_rfl) (by kernel_rfl) (by kernel_rfl) (by kernel_rfl)) ?_
  intro W base args ds gs before hval0 hW hcnd _
  have hval : ∀ (j : Nat) t v, Try.f5.params[j]? = some t → args[j]? = some v → Value.okWide Try.prog W .any base t v := hval0
  have hW' := hW
  obtain ⟨p, q, hA0, hV, rfl, hfz, hnd⟩ := hW
  have hA : DataW.TrodAll enc Try.prog W 0 (fun _ => true) true Try.f5.params.toList args.toList ds p := hA0
  rw [Try.params5] at hA hval
  obtain ⟨v0, v1, d0, d1, p0, p1, rfl, rfl, rfl, h0, h1⟩ := trodAll_two hA
  obtain ⟨rfl, rfl⟩ := trodVars_none hV
  obtain ⟨n, rfl, rfl, rfl, wn⟩ := open_int Try.underlying3 (hval 0 3 v0 rfl rfl) h0
  obtain ⟨x, hx, rfl, rfl⟩ := open_by Try.underlying22 Try.underlying5 (by kernel_rfl) (by kernel_rfl) (hval 1 22 v1 rfl rfl) h1
  clear hA0 hval0
  refine (fnToBytes n x hx W).mono fun e W' ⟨he, hb⟩ => ?_
  subst he
  exact ⟨_, rfl, ⟨_, _, _, [], [], [], hW', trodAll_mk1 (shut_bool Try.underlying4 true), trodAll_mk2 (shut_int Try.underlying3 wn) (Below.trod laidOut1 (by kernel_rfl) (of_decide_eq_true (by kernel_rfl)) h1 hb (by simp)), rfl, hb.frame _, fun h => by cases h⟩⟩

theorem fnToBytes_holds : Rows.FnToBytesSaid :=
  OpenClaim.holds_of_wide 5 Try.f5 rfl rfl rfl rfl rfl rfl rfl ⟨rfl, rfl, rfl, rfl, rfl⟩ rfl rfl rfl rfl rfl (by kernel_rfl) Try.func5 (by kernel_rfl)
    (of_decide_eq_true (by kernel_rfl)) (by unfold Func.isWrapper; first | (rw [if_pos (by decide +kernel)]; kernel_rfl) | (rw [if_neg (by decide +kernel)]; exact ⟨rfl, rfl⟩))
    (fun os started H enc _ => fnToBytes_lifted os started H enc)
#print axioms fnToBytes_holds
end Go.Proofs.Yteehdjkmjncehaa
