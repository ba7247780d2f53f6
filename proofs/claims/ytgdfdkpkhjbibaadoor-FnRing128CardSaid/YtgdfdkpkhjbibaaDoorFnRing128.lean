/-
  FnRing128 (written by fring.py).
-/
import Derived.Test.YtgdfdkpkhjbibaaDoorLb2
import Derived.Test.YtgdfdkpkhjbibaaDoorTie
import Derived.Test.YtgdfdkpkhjbibaaDoorCards
import Derived.SevenTiedAt
namespace Go.Proofs.YtgdfdkpkhjbibaaDoor
open Go.ChangeShapes Go.WideShapes Go.ChangeAt Go.WideElems Go.RowKit

theorem ring_a (x y z : Nat) : x * ((y + z) % pf) % pf = (x * y % pf + x * z % pf) % pf := by
  rw [← Nat.add_mod, ← Nat.mul_add, Nat.mul_mod, Nat.mod_mod, ← Nat.mul_mod]
theorem ring_c (x y z : Nat) : x * y % pf * z % pf = x * (y * z % pf) % pf := by
  rw [Nat.mod_mul_mod, Nat.mul_mod_mod, Nat.mul_assoc]
theorem ring_e (x y : Nat) : y * x % pf = x * y % pf := by rw [Nat.mul_comm]
theorem ring_g (y z : Nat) : (z + y) % pf = (y + z) % pf := by rw [Nat.add_comm]
set_option maxRecDepth 100000 in
theorem ring_main {x y z : Nat} {w : World} (hg : GR w) (hBx : x < 256 ^ 16) (hBy : y < 256 ^ 16) (hBz : z < 256 ^ 16) :
    Calls Tryd.prog 6 #[byV 16 x, byV 16 y, byV 16 z] w fun e w' => e = .returned (.bool true) ∧ Below w.heap.size w w' := by
  by_cases h : x < pf ∧ y < pf ∧ z < pf
  · obtain ⟨hx, hy, hz⟩ := h
    refine calls_H (args := [byV 16 x, byV 16 y, byV 16 z]) noD [] Tryd.func6 rfl (m := 117) rfl rfl (hold_nil _ _) ?_
    refine HC.seq ?_
    refine HC.region ?_
    refine HL.new (New.box rfl) (by decide) ?_
    intro b1 hb1
    refine HL.new (New.box rfl) (by decide) ?_
    intro b2 hb2
    refine HL.new (New.box rfl) (by decide) ?_
    intro b3 hb3
    refine HL.val (Val.assign rfl) (by decide) ?_
    refine HL.nil ?_
    refine HQ.next ?_
    refine HC.seq ?_
    refine HC.seq ?_
    refine HC.region ?_
    refine HL.val (Val.load_row rfl (fun w hw => hw.at (i := 2) rfl) Tryd.underlying30 rfl (by kernel_rfl)) (by decide) ?_
    refine HL.val (Val.load_row rfl (fun w hw => hw.at (i := 1) rfl) Tryd.underlying30 rfl (by kernel_rfl)) (by decide) ?_
    refine HL.val (Val.load_row rfl (fun w hw => hw.at (i := 0) rfl) Tryd.underlying30 rfl (by kernel_rfl)) (by decide) ?_
    refine HL.new (New.bslice rfl Tryd.underlying47 (by kernel_rfl) info30 (by decide) (by decide) (fill3 x y z)) (by decide) ?_
    intro b4 hb4
    refine HL.val ((Val.calls en25 (fun w hw => has_any (l := [x, y, z]) (hw.at (i := 0) rfl) (fun k hk => by match k, hk with | 0, _ => exact (pf_by hx) | 1, _ => exact (pf_by hy) | 2, _ => exact (pf_by hz)) (show 3 < 4611686018427387904 from by decide)) rfl).as (v := .bool true) (congrArg Value.bool (by simpa using ⟨hx, hy, hz⟩))) (by decide) ?_
    refine HL.val (Val.not rfl) (by decide) ?_
    refine HL.nil ?_
    refine HQ.next ?_
    refine HC.no rfl ?_
    refine HC.skip ?_
    refine HQ.next ?_
    refine HC.seq ?_
    refine HC.region ?_
    refine HL.val (Val.load_row rfl (fun w hw => hw.at (i := 2) rfl) Tryd.underlying30 rfl (by kernel_rfl)) (by decide) ?_
    refine HL.val (Val.load_row rfl (fun w hw => hw.at (i := 1) rfl) Tryd.underlying30 rfl (by kernel_rfl)) (by decide) ?_
    refine HL.val (Val.calls en32 (fun w hw => iAddTT (hg.sn hw.sn rfl) hy hz) rfl) (by decide) ?_
    refine HL.val (Val.move rfl) (by decide) ?_
    refine HL.val (Val.extract rfl rfl) (by decide) ?_
    refine HL.val (Val.extract rfl rfl) (by decide) ?_
    refine HL.new (New.alloc al30) (by decide) ?_
    intro b5 hb5
    refine HL.put 0 rfl (Put.row rfl rfl (by kernel_rfl) (szB _ _ _) (oneB _ _)) (.inl hb5) ?_
    simp only [List.set_cons_zero]
    refine HL.val (Val.assign rfl) (by decide) ?_
    refine HL.nil ?_
    refine HQ.next ?_
    refine HC.seq ?_
    refine HC.region ?_
    refine HL.val (Val.load_row rfl (fun w hw => hw.at (i := 4) rfl) Tryd.underlying30 rfl (by kernel_rfl)) (by decide) ?_
    refine HL.val (Val.load_row rfl (fun w hw => hw.at (i := 0) rfl) Tryd.underlying30 rfl (by kernel_rfl)) (by decide) ?_
    refine HL.val (Val.calls en33 (fun w hw => iMulTT (hg.sn hw.sn rfl) hx (Nat.mod_lt _ pf_pos)) rfl) (by decide) ?_
    refine HL.val (Val.move rfl) (by decide) ?_
    refine HL.val (Val.extract rfl rfl) (by decide) ?_
    refine HL.val (Val.extract rfl rfl) (by decide) ?_
    refine HL.new (New.alloc al30) (by decide) ?_
    intro b6 hb6
    refine HL.put 0 rfl (Put.row rfl rfl (by kernel_rfl) (szB _ _ _) (oneB _ _)) (.inl hb6) ?_
    simp only [List.set_cons_zero]
    refine HL.val (Val.assign rfl) (by decide) ?_
    refine HL.nil ?_
    refine HQ.next ?_
    refine HC.seq ?_
    refine HC.region ?_
    refine HL.val (Val.load_row rfl (fun w hw => hw.at (i := 5) rfl) Tryd.underlying30 rfl (by kernel_rfl)) (by decide) ?_
    refine HL.val (Val.load_row rfl (fun w hw => hw.at (i := 4) rfl) Tryd.underlying30 rfl (by kernel_rfl)) (by decide) ?_
    refine HL.val (Val.calls en33 (fun w hw => iMulTT (hg.sn hw.sn rfl) hx hy) rfl) (by decide) ?_
    refine HL.val (Val.move rfl) (by decide) ?_
    refine HL.val (Val.extract rfl rfl) (by decide) ?_
    refine HL.val (Val.extract rfl rfl) (by decide) ?_
    refine HL.new (New.alloc al30) (by decide) ?_
    intro b7 hb7
    refine HL.put 0 rfl (Put.row rfl rfl (by kernel_rfl) (szB _ _ _) (oneB _ _)) (.inl hb7) ?_
    simp only [List.set_cons_zero]
    refine HL.val (Val.assign rfl) (by decide) ?_
    refine HL.nil ?_
    refine HQ.next ?_
    refine HC.seq ?_
    refine HC.region ?_
    refine HL.val (Val.load_row rfl (fun w hw => hw.at (i := 6) rfl) Tryd.underlying30 rfl (by kernel_rfl)) (by decide) ?_
    refine HL.val (Val.load_row rfl (fun w hw => hw.at (i := 4) rfl) Tryd.underlying30 rfl (by kernel_rfl)) (by decide) ?_
    refine HL.val (Val.calls en33 (fun w hw => iMulTT (hg.sn hw.sn rfl) hx hz) rfl) (by decide) ?_
    refine HL.val (Val.move rfl) (by decide) ?_
    refine HL.val (Val.extract rfl rfl) (by decide) ?_
    refine HL.val (Val.extract rfl rfl) (by decide) ?_
    refine HL.new (New.alloc al30) (by decide) ?_
    intro b8 hb8
    refine HL.put 0 rfl (Put.row rfl rfl (by kernel_rfl) (szB _ _ _) (oneB _ _)) (.inl hb8) ?_
    simp only [List.set_cons_zero]
    refine HL.val (Val.assign rfl) (by decide) ?_
    refine HL.nil ?_
    refine HQ.next ?_
    refine HC.seq ?_
    refine HC.region ?_
    refine HL.val (Val.load_row rfl (fun w hw => hw.at (i := 1) rfl) Tryd.underlying30 rfl (by kernel_rfl)) (by decide) ?_
    refine HL.val (Val.load_row rfl (fun w hw => hw.at (i := 0) rfl) Tryd.underlying30 rfl (by kernel_rfl)) (by decide) ?_
    refine HL.val (Val.calls en32 (fun w hw => iAddTT (hg.sn hw.sn rfl) (Nat.mod_lt _ pf_pos) (Nat.mod_lt _ pf_pos)) rfl) (by decide) ?_
    refine HL.val (Val.move rfl) (by decide) ?_
    refine HL.val (Val.extract rfl rfl) (by decide) ?_
    refine HL.val (Val.extract rfl rfl) (by decide) ?_
    refine HL.new (New.alloc al30) (by decide) ?_
    intro b9 hb9
    refine HL.put 0 rfl (Put.row rfl rfl (by kernel_rfl) (szB _ _ _) (oneB _ _)) (.inl hb9) ?_
    simp only [List.set_cons_zero]
    refine HL.val (Val.assign rfl) (by decide) ?_
    refine HL.nil ?_
    refine HQ.next ?_
    refine HC.seq ?_
    refine HC.region ?_
    refine HL.val (Val.load_row rfl (fun w hw => hw.at (i := 2) rfl) Tryd.underlying30 rfl (by kernel_rfl)) (by decide) ?_
    refine HL.val (Val.load_row rfl (fun w hw => hw.at (i := 6) rfl) Tryd.underlying30 rfl (by kernel_rfl)) (by decide) ?_
    refine HL.val (Val.calls en33 (fun w hw => iMulTT (hg.sn hw.sn rfl) (Nat.mod_lt _ pf_pos) hz) rfl) (by decide) ?_
    refine HL.val (Val.move rfl) (by decide) ?_
    refine HL.val (Val.extract rfl rfl) (by decide) ?_
    refine HL.val (Val.extract rfl rfl) (by decide) ?_
    refine HL.new (New.alloc al30) (by decide) ?_
    intro b10 hb10
    refine HL.put 0 rfl (Put.row rfl rfl (by kernel_rfl) (szB _ _ _) (oneB _ _)) (.inl hb10) ?_
    simp only [List.set_cons_zero]
    refine HL.val (Val.assign rfl) (by decide) ?_
    refine HL.nil ?_
    refine HQ.next ?_
    refine HC.seq ?_
    refine HC.region ?_
    refine HL.val (Val.load_row rfl (fun w hw => hw.at (i := 8) rfl) Tryd.underlying30 rfl (by kernel_rfl)) (by decide) ?_
    refine HL.val (Val.load_row rfl (fun w hw => hw.at (i := 7) rfl) Tryd.underlying30 rfl (by kernel_rfl)) (by decide) ?_
    refine HL.val (Val.calls en33 (fun w hw => iMulTT (hg.sn hw.sn rfl) hy hz) rfl) (by decide) ?_
    refine HL.val (Val.move rfl) (by decide) ?_
    refine HL.val (Val.extract rfl rfl) (by decide) ?_
    refine HL.val (Val.extract rfl rfl) (by decide) ?_
    refine HL.new (New.alloc al30) (by decide) ?_
    intro b11 hb11
    refine HL.put 0 rfl (Put.row rfl rfl (by kernel_rfl) (szB _ _ _) (oneB _ _)) (.inl hb11) ?_
    simp only [List.set_cons_zero]
    refine HL.val (Val.assign rfl) (by decide) ?_
    refine HL.nil ?_
    refine HQ.next ?_
    refine HC.seq ?_
    refine HC.region ?_
    refine HL.val (Val.load_row rfl (fun w hw => hw.at (i := 10) rfl) Tryd.underlying30 rfl (by kernel_rfl)) (by decide) ?_
    refine HL.val (Val.load_row rfl (fun w hw => hw.at (i := 0) rfl) Tryd.underlying30 rfl (by kernel_rfl)) (by decide) ?_
    refine HL.val (Val.calls en33 (fun w hw => iMulTT (hg.sn hw.sn rfl) hx (Nat.mod_lt _ pf_pos)) rfl) (by decide) ?_
    refine HL.val (Val.move rfl) (by decide) ?_
    refine HL.val (Val.extract rfl rfl) (by decide) ?_
    refine HL.val (Val.extract rfl rfl) (by decide) ?_
    refine HL.new (New.alloc al30) (by decide) ?_
    intro b12 hb12
    refine HL.put 0 rfl (Put.row rfl rfl (by kernel_rfl) (szB _ _ _) (oneB _ _)) (.inl hb12) ?_
    simp only [List.set_cons_zero]
    refine HL.val (Val.assign rfl) (by decide) ?_
    refine HL.nil ?_
    refine HQ.next ?_
    refine HC.seq ?_
    refine HC.region ?_
    refine HL.val (Val.load_row rfl (fun w hw => hw.at (i := 10) rfl) Tryd.underlying30 rfl (by kernel_rfl)) (by decide) ?_
    refine HL.val (Val.load_row rfl (fun w hw => hw.at (i := 11) rfl) Tryd.underlying30 rfl (by kernel_rfl)) (by decide) ?_
    refine HL.val (Val.calls en33 (fun w hw => iMulTT (hg.sn hw.sn rfl) hy hx) rfl) (by decide) ?_
    refine HL.val (Val.move rfl) (by decide) ?_
    refine HL.val (Val.extract rfl rfl) (by decide) ?_
    refine HL.val (Val.extract rfl rfl) (by decide) ?_
    refine HL.new (New.alloc al30) (by decide) ?_
    intro b13 hb13
    refine HL.put 0 rfl (Put.row rfl rfl (by kernel_rfl) (szB _ _ _) (oneB _ _)) (.inl hb13) ?_
    simp only [List.set_cons_zero]
    refine HL.val (Val.assign rfl) (by decide) ?_
    refine HL.nil ?_
    refine HQ.next ?_
    refine HC.seq ?_
    refine HC.region ?_
    refine HL.val (Val.load_row rfl (fun w hw => hw.at (i := 10) rfl) Tryd.underlying30 rfl (by kernel_rfl)) (by decide) ?_
    refine HL.val (Val.load_row rfl (fun w hw => hw.at (i := 11) rfl) Tryd.underlying30 rfl (by kernel_rfl)) (by decide) ?_
    refine HL.val (Val.calls en32 (fun w hw => iAddTT (hg.sn hw.sn rfl) hz hy) rfl) (by decide) ?_
    refine HL.val (Val.move rfl) (by decide) ?_
    refine HL.val (Val.extract rfl rfl) (by decide) ?_
    refine HL.val (Val.extract rfl rfl) (by decide) ?_
    refine HL.new (New.alloc al30) (by decide) ?_
    intro b14 hb14
    refine HL.put 0 rfl (Put.row rfl rfl (by kernel_rfl) (szB _ _ _) (oneB _ _)) (.inl hb14) ?_
    simp only [List.set_cons_zero]
    refine HL.val (Val.assign rfl) (by decide) ?_
    refine HL.nil ?_
    refine HQ.next ?_
    refine HC.seq ?_
    refine HC.region ?_
    refine HL.val (Val.move rfl) (by decide) ?_
    refine HL.val (Val.move rfl) (by decide) ?_
    refine HL.valg rfl (Val.move rfl) (by decide) ?_
    refine HL.val (Val.pickT rfl rfl) (by decide) ?_
    refine HL.val (Val.move rfl) (by decide) ?_
    refine HL.valg rfl (Val.load_row rfl (fun w hw => hw.at (i := 8) rfl) Tryd.underlying30 rfl (by kernel_rfl)) (by decide) ?_
    refine HL.valg rfl (Val.load_row rfl (fun w hw => hw.at (i := 5) rfl) Tryd.underlying30 rfl (by kernel_rfl)) (by decide) ?_
    refine HL.valg rfl ((Val.eqlA rfl rfl (by kernel_rfl) (eqlB (pf_by (Nat.mod_lt _ pf_pos)) (pf_by (Nat.mod_lt _ pf_pos)))).as (congrArg Value.bool (decide_eq_true (ring_a x y z)))) (by decide) ?_
    refine HL.val (Val.pickT rfl rfl) (by decide) ?_
    refine HL.val (Val.move rfl) (by decide) ?_
    refine HL.valg rfl (Val.load_row rfl (fun w hw => hw.at (i := 4) rfl) Tryd.underlying30 rfl (by kernel_rfl)) (by decide) ?_
    refine HL.valg rfl (Val.load_row rfl (fun w hw => hw.at (i := 2) rfl) Tryd.underlying30 rfl (by kernel_rfl)) (by decide) ?_
    refine HL.valg rfl ((Val.eqlA rfl rfl (by kernel_rfl) (eqlB (pf_by (Nat.mod_lt _ pf_pos)) (pf_by (Nat.mod_lt _ pf_pos)))).as (congrArg Value.bool (decide_eq_true (ring_c x y z)))) (by decide) ?_
    refine HL.val (Val.pickT rfl rfl) (by decide) ?_
    refine HL.val (Val.move rfl) (by decide) ?_
    refine HL.valg rfl (Val.load_row rfl (fun w hw => hw.at (i := 1) rfl) Tryd.underlying30 rfl (by kernel_rfl)) (by decide) ?_
    refine HL.valg rfl (Val.load_row rfl (fun w hw => hw.at (i := 7) rfl) Tryd.underlying30 rfl (by kernel_rfl)) (by decide) ?_
    refine HL.valg rfl ((Val.eqlA rfl rfl (by kernel_rfl) (eqlB (pf_by (Nat.mod_lt _ pf_pos)) (pf_by (Nat.mod_lt _ pf_pos)))).as (congrArg Value.bool (decide_eq_true (ring_e x y)))) (by decide) ?_
    refine HL.val (Val.pickT rfl rfl) (by decide) ?_
    refine HL.val (Val.move rfl) (by decide) ?_
    refine HL.valg rfl (Val.load_row rfl (fun w hw => hw.at (i := 0) rfl) Tryd.underlying30 rfl (by kernel_rfl)) (by decide) ?_
    refine HL.valg rfl (Val.load_row rfl (fun w hw => hw.at (i := 9) rfl) Tryd.underlying30 rfl (by kernel_rfl)) (by decide) ?_
    refine HL.valg rfl ((Val.eqlA rfl rfl (by kernel_rfl) (eqlB (pf_by (Nat.mod_lt _ pf_pos)) (pf_by (Nat.mod_lt _ pf_pos)))).as (congrArg Value.bool (decide_eq_true (ring_g y z)))) (by decide) ?_
    refine HL.val (Val.pickT rfl rfl) (by decide) ?_
    refine HL.val (Val.assign rfl) (by decide) ?_
    refine HL.nil ?_
    refine HQ.next ?_
    refine HC.ret ?_
    exact HQ.ret1 rfl rfl (pure_end rfl)
  · refine calls_H (args := [byV 16 x, byV 16 y, byV 16 z]) noD [] Tryd.func6 rfl (m := 117) rfl rfl (hold_nil _ _) ?_
    refine HC.seq ?_
    refine HC.region ?_
    refine HL.new (New.box rfl) (by decide) ?_
    intro b1 hb1
    refine HL.new (New.box rfl) (by decide) ?_
    intro b2 hb2
    refine HL.new (New.box rfl) (by decide) ?_
    intro b3 hb3
    refine HL.val (Val.assign rfl) (by decide) ?_
    refine HL.nil ?_
    refine HQ.next ?_
    refine HC.seq ?_
    refine HC.seq ?_
    refine HC.region ?_
    refine HL.val (Val.load_row rfl (fun w hw => hw.at (i := 2) rfl) Tryd.underlying30 rfl (by kernel_rfl)) (by decide) ?_
    refine HL.val (Val.load_row rfl (fun w hw => hw.at (i := 1) rfl) Tryd.underlying30 rfl (by kernel_rfl)) (by decide) ?_
    refine HL.val (Val.load_row rfl (fun w hw => hw.at (i := 0) rfl) Tryd.underlying30 rfl (by kernel_rfl)) (by decide) ?_
    refine HL.new (New.bslice rfl Tryd.underlying47 (by kernel_rfl) info30 (by decide) (by decide) (fill3 x y z)) (by decide) ?_
    intro b4 hb4
    refine HL.val ((Val.calls en25 (fun w hw => has_any (l := [x, y, z]) (hw.at (i := 0) rfl) (fun k hk => by match k, hk with | 0, _ => exact hBx | 1, _ => exact hBy | 2, _ => exact hBz) (show 3 < 4611686018427387904 from by decide)) rfl).as (v := .bool false) (congrArg Value.bool (by simpa using h))) (by decide) ?_
    refine HL.val (Val.not rfl) (by decide) ?_
    refine HL.nil ?_
    refine HQ.next ?_
    refine HC.yes rfl ?_
    refine HC.seq ?_
    refine HC.region ?_
    refine HL.val (Val.assign rfl) (by decide) ?_
    refine HL.nil ?_
    refine HQ.next ?_
    refine HC.ret ?_
    refine HQ.thenRet ?_
    exact HQ.ret1 rfl rfl (pure_end rfl)


set_option maxRecDepth 100000 in
theorem fnRing128_met (os : Os) (args : Array Value) : laidMetH Tryd.prog Rows.fnRing128Row.laid ((World.doorLaid Tryd.prog 400 os).forCall (fun _ _ => 0) ⟨#[], args, []⟩).memory :=
  laidMetH_of_parts3 (fuel := 8) (laidMet_of_run' 8 (by kernel_rfl) (by kernel_rfl)) (by kernel_rfl) (by kernel_rfl)
set_option maxRecDepth 100000 in
theorem fnRing128_lifted (os : Os) (started : os.Started) (H : Type) (enc : TypeId × Value → H) :
    ReturnsInHanded {} Tryd.checked os 6 .any (fun w args => (Rows.fnRing128Spec.pre enc Tryd.prog Tryd.f6 [] false w args ∧ laidMetH Tryd.prog Rows.fnRing128Row.laid w) ∧ sizedMet enc Tryd.prog Tryd.f6 (OpenSpec.ofChange Rows.fnRing128Spec) false w args)
      (Rows.fnRing128Spec.post enc Tryd.prog Tryd.f6 false true false false) := by
  refine returnsInHanded_of_change_and (C := Tryd.checked) (X := fun w _ => laidMetH Tryd.prog Rows.fnRing128Row.laid w) (fun _ _ _ hh h => h.of_heap hh) own1 started (by kernel_rfl) Tryd.func6
    (ChangeSpec.witness_shaped (enc := enc) (C := Tryd.checked) (os := os) (X := fun w _ => laidMetH Tryd.prog Rows.fnRing128Row.laid w) false (World.doorLaid Tryd.prog 400 os) #[byV 16 0, byV 16 0, byV 16 0] 8 rfl (World.shaped_of_RefB (by kernel_rfl) (by kernel_rfl)) (by kernel_rfl) (by kernel_rfl) (by kernel_rfl) (fnRing128_met os _)) ?_
  intro W base args ds gs before hval0 hW _ _ hL _
  have hval : ∀ (j : Nat) t v, Tryd.f6.params[j]? = some t → args[j]? = some v → Value.okWide Tryd.prog W .any base t v := hval0
  have hW' := hW
  obtain ⟨p, q, hA0, hV, rfl, hfz, hnd⟩ := hW
  have hV0 := hV
  have hA : DataW.TrodAll enc Tryd.prog W 0 (fun _ => true) true Tryd.f6.params.toList args.toList ds p := hA0
  rw [Tryd.params6] at hA hval
  obtain ⟨v0, v1, v2, d0, d1, d2, p0, p1, p2, rfl, rfl, rfl, h0, h1, h2⟩ := trodAll_three hA
  obtain ⟨g0, t0, cs0, f0, e0, m0, rfl, _, _, _, _, _⟩ := trodVars_one hV0
  obtain ⟨x, hx, rfl, rfl⟩ := open_by Tryd.underlying30 Tryd.underlying5 (by kernel_rfl) (by kernel_rfl) (hval 0 30 v0 rfl rfl) h0
  obtain ⟨y, hy, rfl, rfl⟩ := open_by Tryd.underlying30 Tryd.underlying5 (by kernel_rfl) (by kernel_rfl) (hval 1 30 v1 rfl rfl) h1
  obtain ⟨z, hz, rfl, rfl⟩ := open_by Tryd.underlying30 Tryd.underlying5 (by kernel_rfl) (by kernel_rfl) (hval 2 30 v2 rfl rfl) h2
  clear hA0 hval0
  refine (ring_main (gr_at (laid_at (by kernel_rfl) hL 0 rfl)) hx hy hz).mono fun e W' ⟨he, hb⟩ => ?_
  subst he
  exact ⟨_, rfl, ⟨_, _, _, [], _, _, hW', trodAll_mk1 (shut_bool Tryd.underlying4 true), trodAll_mk3 (Below.trod laidOut1 (by kernel_rfl) (of_decide_eq_true (by kernel_rfl)) h0 hb (by simp)) (Below.trod laidOut1 (by kernel_rfl) (of_decide_eq_true (by kernel_rfl)) h1 hb (by simp)) (Below.trod laidOut1 (by kernel_rfl) (of_decide_eq_true (by kernel_rfl)) h2 hb (by simp)), Below.trodVars laidOut1 hb (by kernel_rfl) hV, hb.frame _, fun h => by cases h⟩⟩
theorem fnRing128_c1 : (Rows.fnRing128Row.inPlace == Tryd.pinned.checked.prog.inPlace 6) = true := by kernel_rfl
theorem fnRing128_c2 : (Rows.fnRing128Row.unfollowed == Tryd.pinned.checked.prog.unfollowed 6) = true := by kernel_rfl
theorem fnRing128_c3 : (Rows.fnRing128Row.recurses == Tryd.pinned.checked.prog.recurses 6) = true := by kernel_rfl
theorem fnRing128_c4 : (Rows.fnRing128Row.named == Tryd.pinned.checked.prog.varsNamed 6) = true := by kernel_rfl
theorem fnRing128_c5 : Rows.fnRing128Row.wf (OpenSpec.ofChange Rows.fnRing128Spec) = true := by kernel_rfl
theorem fnRing128_c8 : (Rows.fnRing128Row.plainKeys == Tryd.pinned.checked.prog.plainKeys) = true := by kernel_rfl
theorem fnRing128_d1 : (Rows.fnRing128Row.lifted == Tryd.pinned.checked.prog.liftsFinal) = true := by rw [lifts1]; rfl
theorem fnRing128_d2 : (Tryd.pinned.checked.prog.make == some Rows.fnRing128Row.make) = true := by rw [make1]; rfl
theorem looks1 : false = Tryd.pinned.checked.prog.looks [] := by kernel_rfl
theorem fnRing128_closed : joinedFacts Tryd.pinned.checked.prog 6 Tryd.f6 Rows.fnRing128Spec Rows.fnRing128Row = true := by
  delta joinedFacts
  repeat' with_reducible apply and_i
  all_goals first | with_reducible exact fnRing128_c1 | with_reducible exact fnRing128_c2 | with_reducible exact fnRing128_c3 | with_reducible exact fnRing128_c4 | with_reducible exact fnRing128_c5 | with_reducible exact c6 | with_reducible exact c7 | with_reducible exact fnRing128_c8 | with_reducible exact c9 | with_reducible exact may1 | with_reducible exact fnRing128_d1 | with_reducible exact fnRing128_d2 | kernel_rfl
theorem fnRing128_named : Tryd.pinned.checked.prog.funcNamed Rows.fnRing128Row.func = some 6 := by kernel_rfl
theorem fnRing128_inst : Tryd.f6.isInstance Tryd.pinned.checked.prog Rows.fnRing128Row.origin Rows.fnRing128Row.targs := of_decide_eq_true (by kernel_rfl)
theorem fnRing128_wrap : Tryd.f6.isWrapper Tryd.pinned.checked.prog Rows.fnRing128Row.wrapper Rows.fnRing128Row.mainSum := by unfold Func.isWrapper; first | (rw [if_pos (by decide +kernel)]; kernel_rfl) | (rw [if_neg (by decide +kernel)]; exact ⟨rfl, rfl⟩)
theorem fnRing128_holds : Rows.FnRing128Said :=
  OpenClaim.holds_of_wide 6 Tryd.f6 rfl rfl rfl rfl rfl rfl rfl ⟨rfl, rfl, rfl, rfl, rfl⟩ rfl rfl rfl rfl rfl fnRing128_named Tryd.func6 fnRing128_closed
    fnRing128_inst fnRing128_wrap
    (fun os started H enc _ => fnRing128_lifted os started H enc)
theorem fnRing128_w : Rows.fnRing128Row.wfByText (OpenSpec.ofChange Rows.fnRing128Spec) = true := by kernel_rfl
theorem fnRing128_main : Tryd.pinned.checked.prog.mainIs = some (Rows.fnRing128Card.stood.harness.1, Rows.fnRing128Card.stood.harness.2.toList) := main1.trans (by kernel_rfl)
theorem fnRing128_goes : false = Rows.fnRing128Row.goesBy Tryd.pinned.checked.prog := by kernel_rfl
theorem fnRing128_har : (!Rows.fnRing128Card.stood.harness.1 && Rows.fnRing128Card.stood.harness.2.isEmpty && !false) = false := by kernel_rfl
theorem fnRing128_hl : ∀ f fn, Tryd.pinned.checked.prog.funcNamed Rows.fnRing128Row.func = some f → Tryd.pinned.checked.prog.funcs[f]? = some fn → false = Tryd.pinned.checked.prog.looks [] ∧ ∀ (j : Nat) t, fn.params[j]? = some t → Tryd.pinned.checked.prog.wantsStandIn t = false := fun f fn hf hfn => by
  obtain rfl : f = 6 := (Option.some.inj (fnRing128_named.symm.trans hf)).symm
  obtain rfl : fn = Tryd.f6 := (Option.some.inj (Tryd.func6.symm.trans hfn)).symm
  exact ⟨looks1, fun j t ht => by
    rw [Tryd.params6] at ht
    have hm : t ∈ [30, 30, 30] := by simpa using Array.mem_of_getElem? ht
    have hall : ([30, 30, 30].all fun u => !Tryd.pinned.checked.prog.wantsStandIn u) = true := by kernel_rfl
    exact (show Tryd.pinned.checked.prog.wantsStandIn t = false by simpa using List.all_eq_true.1 hall t hm)⟩
theorem fnRing128Card_holds : Rows.FnRing128CardSaid :=
  Claim7.holds_tied_plain_at .later [] Rows.fnRing128Card.laidKinds true Rows.fnRing128Card.stood.harness false
    fnRing128_holds (fun _ h => by cases h) fnRing128_w (fun _ h => by cases h) fnRing128_row_tie rfl ⟨rfl, rfl⟩ fnRing128_main fnRing128_har fnRing128_hl fnRing128_goes
#print axioms fnRing128Card_holds
end Go.Proofs.YtgdfdkpkhjbibaaDoor
