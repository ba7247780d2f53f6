/-
  FnInvSqrt: for every two elements, neither of them 0, impl.InvSqrt tells whether the quotient is a square, and its answer's square times the divisor is the element then: the law answers true. No condition.
-/
import Derived.Test.YteehdjkmjncehaaIq
import Derived.Test.YteehdjkmjncehaaSq
namespace Go.Proofs.Yteehdjkmjncehaa
open Go.ChangeShapes Go.WideShapes Go.ChangeAt Go.RowKit

theorem own1 : ownKnob Try.prog.godebug = none := by kernel_rfl
theorem laidOut1 : laidOutB Try.prog = true := by kernel_rfl

theorem implInvSqrtC {c : Bool} {D : Nat → Bool} {u0 : World} {η : List (Nat × Obj)} {x y : Nat} (hc : sqB x y = c) (hx : x < 2 ^ 256) (hy : y < 2 ^ 256) (zx : ¬ x % p25 = 0) (zy : ¬ y % p25 = 0) :
    ∀ w, Hold D u0 η w → Calls Try.prog 43 #[byV 32 x, byV 32 y] w fun e w' => ∃ r, (r < 2 ^ 256 ∧ (sqB x y = true → r * r * y % p25 = x % p25)) ∧ e = .returned (.tuple #[byV 32 (r % p25), .bool c]) ∧ Hold D u0 η w' := by
  subst hc; exact implInvSqrtH hx hy zx zy
theorem one_nz : ¬ 1 % p25 = 0 := by decide +kernel
theorem one_sq : sqB 1 1 = true := decide_eq_true (by rw [Nat.one_mul, Nat.one_pow]; decide +kernel)
theorem half_p25 : p25 / 2 = 4 * Num.k25 + 2 := by decide +kernel
theorem chi_eq (x y : Nat) : powN (x * y % p25) (p25 / 2) = (x * y)^(4 * Num.k25 + 2) % p25 := by rw [powN_eq, half_p25, ← Nat.pow_mod]
theorem chi_1 {x y : Nat} (h : sqB x y = true) : powN (x * y % p25) (p25 / 2) = 1 := by rw [chi_eq]; exact of_decide_eq_true h
theorem chi_n {x y : Nat} (zx : ¬ x % p25 = 0) (zy : ¬ y % p25 = 0) (h : sqB x y = false) : ¬ powN (x * y % p25) (p25 / 2) = 1 ∧ ¬ powN (x * y % p25) (p25 / 2) = 0 := by
  rw [chi_eq]
  have h1 : ¬ (x * y)^(4 * Num.k25 + 2) % p25 = 1 := of_decide_eq_false h
  rcases Num.isq (x := x) (y := y) (z := (x*y^7)^Num.k25 * (x*y^3)) zx zy rfl with ⟨h2, _⟩ | ⟨_, h2, _⟩
  · exact absurd h2 h1
  · exact ⟨h1, h2⟩
theorem root_fine {r x y : Nat} (h : r * r * y % p25 = x % p25) : (r % p25) * (r % p25) % p25 * y % p25 = x % p25 := by
  rw [← Nat.mul_mod, Nat.mod_mul_mod]; exact h
set_option maxRecDepth 100000 in
set_option maxHeartbeats 1600000 in
theorem fnInvSqrt (x y : Nat) (hx : x < 2 ^ 256) (hy : y < 2 ^ 256) : Pure Try.prog 17 #[byV 32 x, byV 32 y] (.bool true) := by
  intro w
  by_cases zx : x % p25 = 0
  · refine calls_H (args := [byV 32 x, byV 32 y]) noD [] Try.func17 rfl (m := 55) rfl rfl (hold_nil _ _) ?_
    refine HC.seq ?_
    refine HC.region ?_
    refine HL.new (New.box rfl) (by decide) ?_
    intro b1 hb1
    refine HL.new (New.box rfl) (by decide) ?_
    intro b2 hb2
    refine HL.val (Val.assign rfl) (by decide) ?_
    refine HL.nil ?_
    refine HQ.next ?_
    refine HC.seq ?_
    refine HC.seq ?_
    refine HC.region ?_
    refine HL.val (Val.load_row rfl (fun w hw => hw.at (i := 1) rfl) Try.underlying22 rfl (sz22 _)) (by decide) ?_
    refine HL.val (Val.call en23 (of23 x) rfl) (by decide) ?_
    refine HL.val (Val.call en22 (mod22 x hx) rfl) (by decide) ?_
    refine HL.val (Val.build rfl bz28) (by decide) ?_
    refine HL.val ((Val.eqlA rfl rfl (by kernel_rfl) (eqlN ((x % p25)) 0 (lt256 _) (by decide))).as (congrArg Value.bool (decide_eq_true zx))) (by decide) ?_
    refine HL.val (Val.move rfl) (by decide) ?_
    refine HL.skip rfl (by decide) ?_
    refine HL.skip rfl (by decide) ?_
    refine HL.skip rfl (by decide) ?_
    refine HL.skip rfl (by decide) ?_
    refine HL.skip rfl (by decide) ?_
    refine HL.val (Val.pickT rfl rfl) (by decide) ?_
    refine HL.nil ?_
    refine HQ.next ?_
    refine HC.yes rfl ?_
    refine HC.seq ?_
    refine HC.region ?_
    refine HL.val (Val.assign rfl) (by decide) ?_
    refine HL.nil ?_
    refine HQ.next ?_
    refine HC.ret ?_
    refine HQ.thenRet ?_
    exact HQ.ret1 rfl rfl (pure_end rfl)
  · by_cases zy : y % p25 = 0
    · refine calls_H (args := [byV 32 x, byV 32 y]) noD [] Try.func17 rfl (m := 55) rfl rfl (hold_nil _ _) ?_
      refine HC.seq ?_
      refine HC.region ?_
      refine HL.new (New.box rfl) (by decide) ?_
      intro b1 hb1
      refine HL.new (New.box rfl) (by decide) ?_
      intro b2 hb2
      refine HL.val (Val.assign rfl) (by decide) ?_
      refine HL.nil ?_
      refine HQ.next ?_
      refine HC.seq ?_
      refine HC.seq ?_
      refine HC.region ?_
      refine HL.val (Val.load_row rfl (fun w hw => hw.at (i := 1) rfl) Try.underlying22 rfl (sz22 _)) (by decide) ?_
      refine HL.val (Val.call en23 (of23 x) rfl) (by decide) ?_
      refine HL.val (Val.call en22 (mod22 x hx) rfl) (by decide) ?_
      refine HL.val (Val.build rfl bz28) (by decide) ?_
      refine HL.val ((Val.eqlA rfl rfl (by kernel_rfl) (eqlN ((x % p25)) 0 (lt256 _) (by decide))).as (congrArg Value.bool (decide_eq_false zx))) (by decide) ?_
      refine HL.val (Val.move rfl) (by decide) ?_
      refine HL.valg rfl (Val.load_row rfl (fun w hw => hw.at (i := 0) rfl) Try.underlying22 rfl (sz22 _)) (by decide) ?_
      refine HL.valg rfl (Val.call en23 (of23 y) rfl) (by decide) ?_
      refine HL.valg rfl (Val.call en22 (mod22 y hy) rfl) (by decide) ?_
      refine HL.valg rfl (Val.build rfl bz28) (by decide) ?_
      refine HL.valg rfl ((Val.eqlA rfl rfl (by kernel_rfl) (eqlN ((y % p25)) 0 (lt256 _) (by decide))).as (congrArg Value.bool (decide_eq_true zy))) (by decide) ?_
      refine HL.val (Val.pickF rfl rfl) (by decide) ?_
      refine HL.nil ?_
      refine HQ.next ?_
      refine HC.yes rfl ?_
      refine HC.seq ?_
      refine HC.region ?_
      refine HL.val (Val.assign rfl) (by decide) ?_
      refine HL.nil ?_
      refine HQ.next ?_
      refine HC.ret ?_
      refine HQ.thenRet ?_
      exact HQ.ret1 rfl rfl (pure_end rfl)
    · cases hs : sqB x y
      · refine calls_H (args := [byV 32 x, byV 32 y]) noD [] Try.func17 rfl (m := 55) rfl rfl (hold_nil _ _) ?_
        refine HC.seq ?_
        refine HC.region ?_
        refine HL.new (New.box rfl) (by decide) ?_
        intro b1 hb1
        refine HL.new (New.box rfl) (by decide) ?_
        intro b2 hb2
        refine HL.val (Val.assign rfl) (by decide) ?_
        refine HL.nil ?_
        refine HQ.next ?_
        refine HC.seq ?_
        refine HC.seq ?_
        refine HC.region ?_
        refine HL.val (Val.load_row rfl (fun w hw => hw.at (i := 1) rfl) Try.underlying22 rfl (sz22 _)) (by decide) ?_
        refine HL.val (Val.call en23 (of23 x) rfl) (by decide) ?_
        refine HL.val (Val.call en22 (mod22 x hx) rfl) (by decide) ?_
        refine HL.val (Val.build rfl bz28) (by decide) ?_
        refine HL.val ((Val.eqlA rfl rfl (by kernel_rfl) (eqlN ((x % p25)) 0 (lt256 _) (by decide))).as (congrArg Value.bool (decide_eq_false zx))) (by decide) ?_
        refine HL.val (Val.move rfl) (by decide) ?_
        refine HL.valg rfl (Val.load_row rfl (fun w hw => hw.at (i := 0) rfl) Try.underlying22 rfl (sz22 _)) (by decide) ?_
        refine HL.valg rfl (Val.call en23 (of23 y) rfl) (by decide) ?_
        refine HL.valg rfl (Val.call en22 (mod22 y hy) rfl) (by decide) ?_
        refine HL.valg rfl (Val.build rfl bz28) (by decide) ?_
        refine HL.valg rfl ((Val.eqlA rfl rfl (by kernel_rfl) (eqlN ((y % p25)) 0 (lt256 _) (by decide))).as (congrArg Value.bool (decide_eq_false zy))) (by decide) ?_
        refine HL.val (Val.pickF rfl rfl) (by decide) ?_
        refine HL.nil ?_
        refine HQ.next ?_
        refine HC.no rfl ?_
        refine HC.skip ?_
        refine HQ.next ?_
        refine HC.seq ?_
        refine HC.region ?_
        refine HL.val (Val.load_row rfl (fun w hw => hw.at (i := 1) rfl) Try.underlying22 rfl (sz22 _)) (by decide) ?_
        refine HL.val (Val.load_row rfl (fun w hw => hw.at (i := 0) rfl) Try.underlying22 rfl (sz22 _)) (by decide) ?_
        refine HL.call (f := 43) en43 rfl (implInvSqrtC hs hx hy zx zy) (by decide) ?_
        rintro q0 ⟨lq0, hq0⟩
        refine HL.val (Val.move rfl) (by decide) ?_
        refine HL.val (Val.extract rfl rfl) (by decide) ?_
        refine HL.val (Val.extract rfl rfl) (by decide) ?_
        refine HL.new (New.alloc al22) (by decide) ?_
        intro b3 hb3
        refine HL.put 0 rfl (Put.row rfl rfl (sz22 _) (eqsz32 _ _) (one32 _)) (.inl hb3) ?_
        simp only [List.set_cons_zero]
        refine HL.val (Val.assign rfl) (by decide) ?_
        refine HL.nil ?_
        refine HQ.next ?_
        refine HC.seq ?_
        refine HC.seq ?_
        refine HC.draw0 7 (by kernel_rfl) (by kernel_rfl) ?_
        simp only [List.take, List.drop]
        refine HV.val (Val.move rfl) (by decide) ?_
        refine HV.val (Val.load_row rfl (fun w hw => hw.at (i := 2) rfl) Try.underlying22 rfl (sz22 _)) (by decide) ?_
        refine HV.val (Val.call en23 (of23 x) rfl) (by decide) ?_
        refine HV.val (Val.load_row rfl (fun w hw => hw.at (i := 1) rfl) Try.underlying22 rfl (sz22 _)) (by decide) ?_
        refine HV.val (Val.call en23 (of23 y) rfl) (by decide) ?_
        refine HV.val (Val.call en34 (mul34 x y hx hy) rfl) (by decide) ?_
        refine HV.val (Val.call en44 (isSquare_x (x * y % p25) (lt256 _) (chi_n zx zy hs).1 (chi_n zx zy hs).2) rfl) (by decide) ?_
        refine HV.tail0 ?_
        refine HL.val (Val.neqBool rfl rfl Try.underlying4) (by decide) ?_
        refine HL.nil ?_
        refine HQ.next ?_
        refine HC.no rfl ?_
        refine HC.skip ?_
        refine HQ.next ?_
        refine HC.seq ?_
        refine HC.region ?_
        refine HL.val (Val.call en28 (one28) rfl) (by decide) ?_
        refine HL.val (Val.call en28 (one28) rfl) (by decide) ?_
        refine HL.call (f := 43) en43 rfl (implInvSqrtC one_sq (by decide) (by decide) one_nz one_nz) (by decide) ?_
        rintro r12 ⟨lr12, _⟩
        refine HL.val (Val.move rfl) (by decide) ?_
        refine HL.val (Val.extract rfl rfl) (by decide) ?_
        refine HL.val (Val.extract rfl rfl) (by decide) ?_
        refine HL.new (New.alloc al22) (by decide) ?_
        intro b4 hb4
        refine HL.put 0 rfl (Put.row rfl rfl (sz22 _) (eqsz32 _ _) (one32 _)) (.inl hb4) ?_
        simp only [List.set_cons_zero]
        refine HL.val (Val.assign rfl) (by decide) ?_
        refine HL.nil ?_
        refine HQ.next ?_
        refine HC.seq ?_
        refine HC.draw0 14 (by kernel_rfl) (by kernel_rfl) ?_
        simp only [List.take, List.drop]
        refine HV.val (Val.move rfl) (by decide) ?_
        refine HV.val (Val.move rfl) (by decide) ?_
        refine HV.valg rfl (Val.move rfl) (by decide) ?_
        refine HV.valg rfl (Val.not rfl) (by decide) ?_
        refine HV.valg rfl (Val.move rfl) (by decide) ?_
        refine HV.skip rfl (by decide) ?_
        refine HV.skip rfl (by decide) ?_
        refine HV.skip rfl (by decide) ?_
        refine HV.skip rfl (by decide) ?_
        refine HV.skip rfl (by decide) ?_
        refine HV.skip rfl (by decide) ?_
        refine HV.skip rfl (by decide) ?_
        refine HV.valg rfl (Val.pickT rfl rfl) (by decide) ?_
        refine HV.val (Val.pickT rfl rfl) (by decide) ?_
        refine HV.tail0 ?_
        refine HL.val (Val.assign rfl) (by decide) ?_
        refine HL.nil ?_
        refine HQ.next ?_
        refine HC.ret ?_
        exact HQ.ret1 rfl rfl (pure_end rfl)
      · refine calls_H (args := [byV 32 x, byV 32 y]) noD [] Try.func17 rfl (m := 55) rfl rfl (hold_nil _ _) ?_
        refine HC.seq ?_
        refine HC.region ?_
        refine HL.new (New.box rfl) (by decide) ?_
        intro b1 hb1
        refine HL.new (New.box rfl) (by decide) ?_
        intro b2 hb2
        refine HL.val (Val.assign rfl) (by decide) ?_
        refine HL.nil ?_
        refine HQ.next ?_
        refine HC.seq ?_
        refine HC.seq ?_
        refine HC.region ?_
        refine HL.val (Val.load_row rfl (fun w hw => hw.at (i := 1) rfl) Try.underlying22 rfl (sz22 _)) (by decide) ?_
        refine HL.val (Val.call en23 (of23 x) rfl) (by decide) ?_
        refine HL.val (Val.call en22 (mod22 x hx) rfl) (by decide) ?_
        refine HL.val (Val.build rfl bz28) (by decide) ?_
        refine HL.val ((Val.eqlA rfl rfl (by kernel_rfl) (eqlN ((x % p25)) 0 (lt256 _) (by decide))).as (congrArg Value.bool (decide_eq_false zx))) (by decide) ?_
        refine HL.val (Val.move rfl) (by decide) ?_
        refine HL.valg rfl (Val.load_row rfl (fun w hw => hw.at (i := 0) rfl) Try.underlying22 rfl (sz22 _)) (by decide) ?_
        refine HL.valg rfl (Val.call en23 (of23 y) rfl) (by decide) ?_
        refine HL.valg rfl (Val.call en22 (mod22 y hy) rfl) (by decide) ?_
        refine HL.valg rfl (Val.build rfl bz28) (by decide) ?_
        refine HL.valg rfl ((Val.eqlA rfl rfl (by kernel_rfl) (eqlN ((y % p25)) 0 (lt256 _) (by decide))).as (congrArg Value.bool (decide_eq_false zy))) (by decide) ?_
        refine HL.val (Val.pickF rfl rfl) (by decide) ?_
        refine HL.nil ?_
        refine HQ.next ?_
        refine HC.no rfl ?_
        refine HC.skip ?_
        refine HQ.next ?_
        refine HC.seq ?_
        refine HC.region ?_
        refine HL.val (Val.load_row rfl (fun w hw => hw.at (i := 1) rfl) Try.underlying22 rfl (sz22 _)) (by decide) ?_
        refine HL.val (Val.load_row rfl (fun w hw => hw.at (i := 0) rfl) Try.underlying22 rfl (sz22 _)) (by decide) ?_
        refine HL.call (f := 43) en43 rfl (implInvSqrtC hs hx hy zx zy) (by decide) ?_
        rintro q0 ⟨lq0, hq0⟩
        refine HL.val (Val.move rfl) (by decide) ?_
        refine HL.val (Val.extract rfl rfl) (by decide) ?_
        refine HL.val (Val.extract rfl rfl) (by decide) ?_
        refine HL.new (New.alloc al22) (by decide) ?_
        intro b3 hb3
        refine HL.put 0 rfl (Put.row rfl rfl (sz22 _) (eqsz32 _ _) (one32 _)) (.inl hb3) ?_
        simp only [List.set_cons_zero]
        refine HL.val (Val.assign rfl) (by decide) ?_
        refine HL.nil ?_
        refine HQ.next ?_
        refine HC.seq ?_
        refine HC.seq ?_
        refine HC.draw0 7 (by kernel_rfl) (by kernel_rfl) ?_
        simp only [List.take, List.drop]
        refine HV.val (Val.move rfl) (by decide) ?_
        refine HV.val (Val.load_row rfl (fun w hw => hw.at (i := 2) rfl) Try.underlying22 rfl (sz22 _)) (by decide) ?_
        refine HV.val (Val.call en23 (of23 x) rfl) (by decide) ?_
        refine HV.val (Val.load_row rfl (fun w hw => hw.at (i := 1) rfl) Try.underlying22 rfl (sz22 _)) (by decide) ?_
        refine HV.val (Val.call en23 (of23 y) rfl) (by decide) ?_
        refine HV.val (Val.call en34 (mul34 x y hx hy) rfl) (by decide) ?_
        refine HV.val (Val.call en44 (isSquare_1 (x * y % p25) (lt256 _) (chi_1 hs)) rfl) (by decide) ?_
        refine HV.tail0 ?_
        refine HL.val (Val.neqBool rfl rfl Try.underlying4) (by decide) ?_
        refine HL.nil ?_
        refine HQ.next ?_
        refine HC.no rfl ?_
        refine HC.skip ?_
        refine HQ.next ?_
        refine HC.seq ?_
        refine HC.region ?_
        refine HL.val (Val.call en28 (one28) rfl) (by decide) ?_
        refine HL.val (Val.call en28 (one28) rfl) (by decide) ?_
        refine HL.call (f := 43) en43 rfl (implInvSqrtC one_sq (by decide) (by decide) one_nz one_nz) (by decide) ?_
        rintro r12 ⟨lr12, _⟩
        refine HL.val (Val.move rfl) (by decide) ?_
        refine HL.val (Val.extract rfl rfl) (by decide) ?_
        refine HL.val (Val.extract rfl rfl) (by decide) ?_
        refine HL.new (New.alloc al22) (by decide) ?_
        intro b4 hb4
        refine HL.put 0 rfl (Put.row rfl rfl (sz22 _) (eqsz32 _ _) (one32 _)) (.inl hb4) ?_
        simp only [List.set_cons_zero]
        refine HL.val (Val.assign rfl) (by decide) ?_
        refine HL.nil ?_
        refine HQ.next ?_
        refine HC.seq ?_
        refine HC.draw0 14 (by kernel_rfl) (by kernel_rfl) ?_
        simp only [List.take, List.drop]
        refine HV.val (Val.move rfl) (by decide) ?_
        refine HV.val (Val.move rfl) (by decide) ?_
        refine HV.valg rfl (Val.move rfl) (by decide) ?_
        refine HV.valg rfl (Val.not rfl) (by decide) ?_
        refine HV.valg rfl (Val.move rfl) (by decide) ?_
        refine HV.valg rfl (Val.load_row rfl (fun w hw => hw.at (i := 1) rfl) Try.underlying22 rfl (sz22 _)) (by decide) ?_
        refine HV.valg rfl (Val.call en37 (implSqr ((q0 % p25)) (lt256 _)) rfl) (by decide) ?_
        refine HV.valg rfl (Val.load_row rfl (fun w hw => hw.at (i := 2) rfl) Try.underlying22 rfl (sz22 _)) (by decide) ?_
        refine HV.valg rfl (Val.call en38 (implMul (((((q0 % p25)) * ((q0 % p25))) % p25)) y (lt256 _) hy) rfl) (by decide) ?_
        refine HV.valg rfl (Val.load_row rfl (fun w hw => hw.at (i := 3) rfl) Try.underlying22 rfl (sz22 _)) (by decide) ?_
        refine HV.valg rfl (Val.call en21 (implModp x hx) rfl) (by decide) ?_
        refine HV.valg rfl ((Val.eqlA rfl rfl (by kernel_rfl) (eql22 ((((((((q0 % p25)) * ((q0 % p25))) % p25)) * y) % p25)) ((x % p25)) (lt_256_32 (lt256 _)) (lt_256_32 (lt256 _)))).as (congrArg Value.bool (decide_eq_true (root_fine (hq0 hs))))) (by decide) ?_
        refine HV.valg rfl (Val.pickF rfl rfl) (by decide) ?_
        refine HV.val (Val.pickT rfl rfl) (by decide) ?_
        refine HV.tail0 ?_
        refine HL.val (Val.assign rfl) (by decide) ?_
        refine HL.nil ?_
        refine HQ.next ?_
        refine HC.ret ?_
        exact HQ.ret1 rfl rfl (pure_end rfl)
set_option maxRecDepth 100000 in
theorem fnInvSqrt_lifted (os : Os) (started : os.Started) (H : Type) (enc : TypeId × Value → H) :
    ReturnsInHanded {} Try.checked os 17 .any (Rows.fnInvSqrtSpec.pre6 enc Try.prog Try.f17 Rows.fnInvSqrtRow.domain false) (Rows.fnInvSqrtSpec.post enc Try.prog Try.f17 false true false false) := by
  refine returnsInHanded_of_change (C := Try.checked) own1 started (by kernel_rfl) Try.func17
    (ChangeSpec.witness6 (enc := enc) (C := Try.checked) false ⟨#[], #[byV 32 0, byV 32 0], []⟩ 8 (by kernel_rfl) (by kernel_rfl) (by kernel_rfl) (by kernel_rfl)) ?_
  intro W base args ds gs before hval0 hW hcnd _
  have hval : ∀ (j : Nat) t v, Try.f17.params[j]? = some t → args[j]? = some v → Value.okWide Try.prog W .any base t v := hval0
  have hW' := hW
  obtain ⟨p, q, hA0, hV, rfl, hfz, hnd⟩ := hW
  have hA : DataW.TrodAll enc Try.prog W 0 (fun _ => true) true Try.f17.params.toList args.toList ds p := hA0
  rw [Try.params17] at hA hval
  obtain ⟨v0, v1, d0, d1, p0, p1, rfl, rfl, rfl, h0, h1⟩ := trodAll_two hA
  obtain ⟨rfl, rfl⟩ := trodVars_none hV
  obtain ⟨x, hx, rfl, rfl⟩ := open_by Try.underlying22 Try.underlying5 (by kernel_rfl) (by kernel_rfl) (hval 0 22 v0 rfl rfl) h0
  obtain ⟨y, hy, rfl, rfl⟩ := open_by Try.underlying22 Try.underlying5 (by kernel_rfl) (by kernel_rfl) (hval 1 22 v1 rfl rfl) h1
  clear hA0 hval0
  refine (fnInvSqrt x y hx hy W).mono fun e W' ⟨he, hb⟩ => ?_
  subst he
  exact ⟨_, rfl, ⟨_, _, _, [], [], [], hW', trodAll_mk1 (shut_bool Try.underlying4 true), trodAll_mk2 (Below.trod laidOut1 (by kernel_rfl) (of_decide_eq_true (by kernel_rfl)) h0 hb (by simp)) (Below.trod laidOut1 (by kernel_rfl) (of_decide_eq_true (by kernel_rfl)) h1 hb (by simp)), rfl, hb.frame _, fun h => by cases h⟩⟩

theorem fnInvSqrt_holds : Rows.FnInvSqrtSaid :=
  OpenClaim.holds_of_wide 17 Try.f17 rfl rfl rfl rfl rfl rfl rfl ⟨rfl, rfl, rfl, rfl, rfl⟩ rfl rfl rfl rfl rfl (by kernel_rfl) Try.func17 (by kernel_rfl)
    (of_decide_eq_true (by kernel_rfl)) (by unfold Func.isWrapper; first | (rw [if_pos (by decide +kernel)]; kernel_rfl) | (rw [if_neg (by decide +kernel)]; exact ⟨rfl, rfl⟩))
    (fun os started H enc _ => fnInvSqrt_lifted os started H enc)
#print axioms fnInvSqrt_holds
end Go.Proofs.Yteehdjkmjncehaa
