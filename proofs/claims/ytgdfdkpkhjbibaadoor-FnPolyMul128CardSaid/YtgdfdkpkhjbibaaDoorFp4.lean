/-
  The operations on bytes (written by genfp4.py).
-/
import Derived.Test.YtgdfdkpkhjbibaaDoorFp3
namespace Go.Proofs.YtgdfdkpkhjbibaaDoor
open Go.RowKit
theorem lift_new {P : Program} {D : Nat → Bool} {w0 w : World} {η : List (Nat × Obj)} {f : FuncId} {args : Array Value} {v : Nat → Value} {ob : Obj} (hw : Hold D w0 η w)
    (h : Calls P f args w fun e w' => ∃ b, w.heap.size ≤ b ∧ e = .returned (v b) ∧ w'.heap[b]? = some ob ∧ Below w.heap.size w w') :
    Calls P f args w fun e w' => ∃ b, w0.heap.size ≤ b ∧ e = .returned (v b) ∧ Hold D w0 ((b, ob) :: η) w' :=
  h.mono fun _ _ ⟨b, h1, h2, h3, h4⟩ => ⟨b, (hw.extend h1 h4 h3).1, h2, (hw.extend h1 h4 h3).2⟩
theorem built_by0 : Tryd.prog.built 30 [] = some (byA 16 0) := by kernel_rfl

set_option maxRecDepth 100000 in
theorem told_p (n : Nat) (hn : n < pf) : Pure Tryd.prog 69 #[.agg (fpC n)] (byV 16 n) := by
  intro w
  refine calls_H (args := [.agg (fpC n)]) noD [] Tryd.func69 rfl (m := 6) rfl rfl (hold_nil _ _) ?_
  refine HC.seq ?_
  refine HC.region ?_
  refine HL.new (New.box rfl) (by decide) ?_
  intro b1 hb1
  refine HL.new (New.alloc al30) (by decide) ?_
  intro b2 hb2
  refine HL.nil ?_
  refine HQ.next ?_
  refine HC.seq ?_
  refine HC.region ?_
  refine HL.call (f := 104) en104 rfl (fun w hw => lift_new hw (toBytes_any (RawAt.row (hw.at (i := 1) rfl)) hn)) (by decide) ?_
  rintro b3 hb3
  refine HL.val (Val.arrPtr rfl Tryd.underlying30 (by decide)) (by decide) ?_
  refine HL.val (Val.load_row rfl (fun w hw => hw.at (i := 0) rfl) Tryd.underlying30 rfl (by kernel_rfl)) (by decide) ?_
  refine HL.put 1 rfl (Put.row rfl rfl (by kernel_rfl) (szB _ _ _) (oneB _ _)) (.inl hb2) ?_
  simp only [List.set_cons_zero, List.set_cons_succ]
  refine HL.nil ?_
  refine HQ.next ?_
  refine HC.ret ?_
  exact HQ.retc 1 rfl rfl rfl Tryd.underlying30 rfl (by kernel_rfl) (pure_end rfl)

set_option maxRecDepth 100000 in
theorem iAddTT {x y : Nat} {w : World} (hg : GR w) (hx : x < pf) (hy : y < pf) : Calls Tryd.prog 32 #[byV 16 x, byV 16 y] w fun e w' => e = .returned (.tuple #[byV 16 ((x + y) % pf), .bool true]) ∧ Below w.heap.size w w' := by
  refine calls_H (args := [byV 16 x, byV 16 y]) noD [] Tryd.func32 rfl (m := 31) rfl rfl (hold_nil _ _) ?_
  refine HC.seq ?_
  refine HC.region ?_
  refine HL.new (New.box rfl) (by decide) ?_
  intro b1 hb1
  refine HL.new (New.box rfl) (by decide) ?_
  intro b2 hb2
  refine HL.new (New.alloc al30) (by decide) ?_
  intro b3 hb3
  refine HL.val (Val.assign rfl) (by decide) ?_
  refine HL.nil ?_
  refine HQ.next ?_
  refine HC.seq ?_
  refine HC.region ?_
  refine HL.val (Val.load_row rfl (fun w hw => hw.at (i := 2) rfl) Tryd.underlying30 rfl (by kernel_rfl)) (by decide) ?_
  refine HL.val (Val.calls en71 (fun w hw => ofT (hg.sn hw.sn rfl) hx) rfl) (by decide) ?_
  refine HL.val (Val.move rfl) (by decide) ?_
  refine HL.val (Val.extract rfl rfl) (by decide) ?_
  refine HL.val (Val.extract rfl rfl) (by decide) ?_
  refine HL.new (New.alloc al81) (by decide) ?_
  intro b4 hb4
  refine HL.put 0 rfl (Put.row rfl rfl (by kernel_rfl) (szR _ _) (rawC_one _)) (.inl hb4) ?_
  simp only [List.set_cons_zero]
  refine HL.val (Val.assign rfl) (by decide) ?_
  refine HL.nil ?_
  refine HQ.next ?_
  refine HC.seq ?_
  refine HC.region ?_
  refine HL.val (Val.load_row rfl (fun w hw => hw.at (i := 2) rfl) Tryd.underlying30 rfl (by kernel_rfl)) (by decide) ?_
  refine HL.val (Val.calls en71 (fun w hw => ofT (hg.sn hw.sn rfl) hy) rfl) (by decide) ?_
  refine HL.val (Val.move rfl) (by decide) ?_
  refine HL.val (Val.extract rfl rfl) (by decide) ?_
  refine HL.val (Val.extract rfl rfl) (by decide) ?_
  refine HL.new (New.alloc al81) (by decide) ?_
  intro b5 hb5
  refine HL.put 0 rfl (Put.row rfl rfl (by kernel_rfl) (szR _ _) (rawC_one _)) (.inl hb5) ?_
  simp only [List.set_cons_zero]
  refine HL.val (Val.assign rfl) (by decide) ?_
  refine HL.nil ?_
  refine HQ.next ?_
  refine HC.seq ?_
  refine HC.seq ?_
  refine HC.region ?_
  refine HL.val (Val.move rfl) (by decide) ?_
  refine HL.val (Val.not rfl) (by decide) ?_
  refine HL.val (Val.move rfl) (by decide) ?_
  refine HL.valg rfl (Val.move rfl) (by decide) ?_
  refine HL.valg rfl (Val.not rfl) (by decide) ?_
  refine HL.val (Val.pickF rfl rfl) (by decide) ?_
  refine HL.nil ?_
  refine HQ.next ?_
  refine HC.no rfl ?_
  refine HC.skip ?_
  refine HQ.next ?_
  refine HC.seq ?_
  refine HC.region ?_
  refine HL.new (New.alloc al81) (by decide) ?_
  intro b6 hb6
  refine HL.nil ?_
  refine HQ.next ?_
  refine HC.seq ?_
  refine HC.region ?_
  refine HL.callD en79 rfl (fpAddH (dstf1 0 rfl (.inl hb6)) (loc1 2 rfl) hx (loc1 1 rfl) hy) (by decide) ?_
  simp only [List.set_cons_zero]
  refine HL.nil ?_
  refine HQ.next ?_
  refine HC.seq ?_
  refine HC.region ?_
  refine HL.val (Val.load_row rfl (fun w hw => hw.at (i := 0) rfl) Tryd.underlying81 rfl (by kernel_rfl)) (by decide) ?_
  refine HL.val (Val.call en69 (told_p (((x + y) % pf)) (Nat.mod_lt _ pf_pos)) rfl) (by decide) ?_
  refine HL.put 3 rfl (Put.row rfl rfl (by kernel_rfl) (szB _ _ _) (oneB _ _)) (.inl hb3) ?_
  simp only [List.set_cons_zero, List.set_cons_succ]
  refine HL.val (Val.assign rfl) (by decide) ?_
  refine HL.nil ?_
  refine HQ.next ?_
  refine HC.ret ?_
  exact HQ.retct 3 rfl rfl rfl rfl Tryd.underlying30 rfl (by kernel_rfl) (pure_end rfl)

set_option maxRecDepth 100000 in
theorem iAddFT {x y : Nat} {w : World} (hg : GR w) (hBx : x < 256 ^ 16) (hx : ¬ x < pf) (hy : y < pf) : Calls Tryd.prog 32 #[byV 16 x, byV 16 y] w fun e w' => e = .returned (.tuple #[byV 16 0, .bool false]) ∧ Below w.heap.size w w' := by
  refine calls_H (args := [byV 16 x, byV 16 y]) noD [] Tryd.func32 rfl (m := 31) rfl rfl (hold_nil _ _) ?_
  refine HC.seq ?_
  refine HC.region ?_
  refine HL.new (New.box rfl) (by decide) ?_
  intro b1 hb1
  refine HL.new (New.box rfl) (by decide) ?_
  intro b2 hb2
  refine HL.new (New.alloc al30) (by decide) ?_
  intro b3 hb3
  refine HL.val (Val.assign rfl) (by decide) ?_
  refine HL.nil ?_
  refine HQ.next ?_
  refine HC.seq ?_
  refine HC.region ?_
  refine HL.val (Val.load_row rfl (fun w hw => hw.at (i := 2) rfl) Tryd.underlying30 rfl (by kernel_rfl)) (by decide) ?_
  refine HL.val (Val.calls en71 (fun w hw => ofF hBx hx) rfl) (by decide) ?_
  refine HL.val (Val.move rfl) (by decide) ?_
  refine HL.val (Val.extract rfl rfl) (by decide) ?_
  refine HL.val (Val.extract rfl rfl) (by decide) ?_
  refine HL.new (New.alloc al81) (by decide) ?_
  intro b4 hb4
  refine HL.put 0 rfl (Put.row rfl rfl (by kernel_rfl) (szR _ _) (rawC_one _)) (.inl hb4) ?_
  simp only [List.set_cons_zero]
  refine HL.val (Val.assign rfl) (by decide) ?_
  refine HL.nil ?_
  refine HQ.next ?_
  refine HC.seq ?_
  refine HC.region ?_
  refine HL.val (Val.load_row rfl (fun w hw => hw.at (i := 2) rfl) Tryd.underlying30 rfl (by kernel_rfl)) (by decide) ?_
  refine HL.val (Val.calls en71 (fun w hw => ofT (hg.sn hw.sn rfl) hy) rfl) (by decide) ?_
  refine HL.val (Val.move rfl) (by decide) ?_
  refine HL.val (Val.extract rfl rfl) (by decide) ?_
  refine HL.val (Val.extract rfl rfl) (by decide) ?_
  refine HL.new (New.alloc al81) (by decide) ?_
  intro b5 hb5
  refine HL.put 0 rfl (Put.row rfl rfl (by kernel_rfl) (szR _ _) (rawC_one _)) (.inl hb5) ?_
  simp only [List.set_cons_zero]
  refine HL.val (Val.assign rfl) (by decide) ?_
  refine HL.nil ?_
  refine HQ.next ?_
  refine HC.seq ?_
  refine HC.seq ?_
  refine HC.region ?_
  refine HL.val (Val.move rfl) (by decide) ?_
  refine HL.val (Val.not rfl) (by decide) ?_
  refine HL.val (Val.move rfl) (by decide) ?_
  refine HL.skip rfl (by decide) ?_
  refine HL.skip rfl (by decide) ?_
  refine HL.val (Val.pickT rfl rfl) (by decide) ?_
  refine HL.nil ?_
  refine HQ.next ?_
  refine HC.yes rfl ?_
  refine HC.seq ?_
  refine HC.region ?_
  refine HL.val (Val.build rfl built_by0) (by decide) ?_
  refine HL.put 2 rfl (Put.row rfl rfl (by kernel_rfl) (szB _ _ _) (oneB _ _)) (.inl hb3) ?_
  simp only [List.set_cons_zero, List.set_cons_succ]
  refine HL.val (Val.assign rfl) (by decide) ?_
  refine HL.nil ?_
  refine HQ.next ?_
  refine HC.ret ?_
  refine HQ.thenRet ?_
  exact HQ.retct 2 rfl rfl rfl rfl Tryd.underlying30 rfl (by kernel_rfl) (pure_end rfl)

set_option maxRecDepth 100000 in
theorem iAddTF {x y : Nat} {w : World} (hg : GR w) (hx : x < pf) (hBy : y < 256 ^ 16) (hy : ¬ y < pf) : Calls Tryd.prog 32 #[byV 16 x, byV 16 y] w fun e w' => e = .returned (.tuple #[byV 16 0, .bool false]) ∧ Below w.heap.size w w' := by
  refine calls_H (args := [byV 16 x, byV 16 y]) noD [] Tryd.func32 rfl (m := 31) rfl rfl (hold_nil _ _) ?_
  refine HC.seq ?_
  refine HC.region ?_
  refine HL.new (New.box rfl) (by decide) ?_
  intro b1 hb1
  refine HL.new (New.box rfl) (by decide) ?_
  intro b2 hb2
  refine HL.new (New.alloc al30) (by decide) ?_
  intro b3 hb3
  refine HL.val (Val.assign rfl) (by decide) ?_
  refine HL.nil ?_
  refine HQ.next ?_
  refine HC.seq ?_
  refine HC.region ?_
  refine HL.val (Val.load_row rfl (fun w hw => hw.at (i := 2) rfl) Tryd.underlying30 rfl (by kernel_rfl)) (by decide) ?_
  refine HL.val (Val.calls en71 (fun w hw => ofT (hg.sn hw.sn rfl) hx) rfl) (by decide) ?_
  refine HL.val (Val.move rfl) (by decide) ?_
  refine HL.val (Val.extract rfl rfl) (by decide) ?_
  refine HL.val (Val.extract rfl rfl) (by decide) ?_
  refine HL.new (New.alloc al81) (by decide) ?_
  intro b4 hb4
  refine HL.put 0 rfl (Put.row rfl rfl (by kernel_rfl) (szR _ _) (rawC_one _)) (.inl hb4) ?_
  simp only [List.set_cons_zero]
  refine HL.val (Val.assign rfl) (by decide) ?_
  refine HL.nil ?_
  refine HQ.next ?_
  refine HC.seq ?_
  refine HC.region ?_
  refine HL.val (Val.load_row rfl (fun w hw => hw.at (i := 2) rfl) Tryd.underlying30 rfl (by kernel_rfl)) (by decide) ?_
  refine HL.val (Val.calls en71 (fun w hw => ofF hBy hy) rfl) (by decide) ?_
  refine HL.val (Val.move rfl) (by decide) ?_
  refine HL.val (Val.extract rfl rfl) (by decide) ?_
  refine HL.val (Val.extract rfl rfl) (by decide) ?_
  refine HL.new (New.alloc al81) (by decide) ?_
  intro b5 hb5
  refine HL.put 0 rfl (Put.row rfl rfl (by kernel_rfl) (szR _ _) (rawC_one _)) (.inl hb5) ?_
  simp only [List.set_cons_zero]
  refine HL.val (Val.assign rfl) (by decide) ?_
  refine HL.nil ?_
  refine HQ.next ?_
  refine HC.seq ?_
  refine HC.seq ?_
  refine HC.region ?_
  refine HL.val (Val.move rfl) (by decide) ?_
  refine HL.val (Val.not rfl) (by decide) ?_
  refine HL.val (Val.move rfl) (by decide) ?_
  refine HL.valg rfl (Val.move rfl) (by decide) ?_
  refine HL.valg rfl (Val.not rfl) (by decide) ?_
  refine HL.val (Val.pickF rfl rfl) (by decide) ?_
  refine HL.nil ?_
  refine HQ.next ?_
  refine HC.yes rfl ?_
  refine HC.seq ?_
  refine HC.region ?_
  refine HL.val (Val.build rfl built_by0) (by decide) ?_
  refine HL.put 2 rfl (Put.row rfl rfl (by kernel_rfl) (szB _ _ _) (oneB _ _)) (.inl hb3) ?_
  simp only [List.set_cons_zero, List.set_cons_succ]
  refine HL.val (Val.assign rfl) (by decide) ?_
  refine HL.nil ?_
  refine HQ.next ?_
  refine HC.ret ?_
  refine HQ.thenRet ?_
  exact HQ.retct 2 rfl rfl rfl rfl Tryd.underlying30 rfl (by kernel_rfl) (pure_end rfl)

set_option maxRecDepth 100000 in
theorem iAddFF {x y : Nat} {w : World} (hBx : x < 256 ^ 16) (hx : ¬ x < pf) (hBy : y < 256 ^ 16) (hy : ¬ y < pf) : Calls Tryd.prog 32 #[byV 16 x, byV 16 y] w fun e w' => e = .returned (.tuple #[byV 16 0, .bool false]) ∧ Below w.heap.size w w' := by
  refine calls_H (args := [byV 16 x, byV 16 y]) noD [] Tryd.func32 rfl (m := 31) rfl rfl (hold_nil _ _) ?_
  refine HC.seq ?_
  refine HC.region ?_
  refine HL.new (New.box rfl) (by decide) ?_
  intro b1 hb1
  refine HL.new (New.box rfl) (by decide) ?_
  intro b2 hb2
  refine HL.new (New.alloc al30) (by decide) ?_
  intro b3 hb3
  refine HL.val (Val.assign rfl) (by decide) ?_
  refine HL.nil ?_
  refine HQ.next ?_
  refine HC.seq ?_
  refine HC.region ?_
  refine HL.val (Val.load_row rfl (fun w hw => hw.at (i := 2) rfl) Tryd.underlying30 rfl (by kernel_rfl)) (by decide) ?_
  refine HL.val (Val.calls en71 (fun w hw => ofF hBx hx) rfl) (by decide) ?_
  refine HL.val (Val.move rfl) (by decide) ?_
  refine HL.val (Val.extract rfl rfl) (by decide) ?_
  refine HL.val (Val.extract rfl rfl) (by decide) ?_
  refine HL.new (New.alloc al81) (by decide) ?_
  intro b4 hb4
  refine HL.put 0 rfl (Put.row rfl rfl (by kernel_rfl) (szR _ _) (rawC_one _)) (.inl hb4) ?_
  simp only [List.set_cons_zero]
  refine HL.val (Val.assign rfl) (by decide) ?_
  refine HL.nil ?_
  refine HQ.next ?_
  refine HC.seq ?_
  refine HC.region ?_
  refine HL.val (Val.load_row rfl (fun w hw => hw.at (i := 2) rfl) Tryd.underlying30 rfl (by kernel_rfl)) (by decide) ?_
  refine HL.val (Val.calls en71 (fun w hw => ofF hBy hy) rfl) (by decide) ?_
  refine HL.val (Val.move rfl) (by decide) ?_
  refine HL.val (Val.extract rfl rfl) (by decide) ?_
  refine HL.val (Val.extract rfl rfl) (by decide) ?_
  refine HL.new (New.alloc al81) (by decide) ?_
  intro b5 hb5
  refine HL.put 0 rfl (Put.row rfl rfl (by kernel_rfl) (szR _ _) (rawC_one _)) (.inl hb5) ?_
  simp only [List.set_cons_zero]
  refine HL.val (Val.assign rfl) (by decide) ?_
  refine HL.nil ?_
  refine HQ.next ?_
  refine HC.seq ?_
  refine HC.seq ?_
  refine HC.region ?_
  refine HL.val (Val.move rfl) (by decide) ?_
  refine HL.val (Val.not rfl) (by decide) ?_
  refine HL.val (Val.move rfl) (by decide) ?_
  refine HL.skip rfl (by decide) ?_
  refine HL.skip rfl (by decide) ?_
  refine HL.val (Val.pickT rfl rfl) (by decide) ?_
  refine HL.nil ?_
  refine HQ.next ?_
  refine HC.yes rfl ?_
  refine HC.seq ?_
  refine HC.region ?_
  refine HL.val (Val.build rfl built_by0) (by decide) ?_
  refine HL.put 2 rfl (Put.row rfl rfl (by kernel_rfl) (szB _ _ _) (oneB _ _)) (.inl hb3) ?_
  simp only [List.set_cons_zero, List.set_cons_succ]
  refine HL.val (Val.assign rfl) (by decide) ?_
  refine HL.nil ?_
  refine HQ.next ?_
  refine HC.ret ?_
  refine HQ.thenRet ?_
  exact HQ.retct 2 rfl rfl rfl rfl Tryd.underlying30 rfl (by kernel_rfl) (pure_end rfl)

theorem iAddF {x y : Nat} {w : World} (hg : GR w) (hBx : x < 256 ^ 16) (hBy : y < 256 ^ 16) (h : ¬ (x < pf ∧ y < pf)) : Calls Tryd.prog 32 #[byV 16 x, byV 16 y] w fun e w' => e = .returned (.tuple #[byV 16 0, .bool false]) ∧ Below w.heap.size w w' := by
  by_cases hx : x < pf
  · by_cases hy : y < pf
    · exact absurd ⟨hx, hy⟩ h
    · exact iAddTF hg hx hBy hy
  · by_cases hy : y < pf
    · exact iAddFT hg hBx hx hy
    · exact iAddFF hBx hx hBy hy

set_option maxRecDepth 100000 in
theorem iSubTT {x y : Nat} {w : World} (hg : GR w) (hx : x < pf) (hy : y < pf) : Calls Tryd.prog 40 #[byV 16 x, byV 16 y] w fun e w' => e = .returned (.tuple #[byV 16 (subF x y), .bool true]) ∧ Below w.heap.size w w' := by
  refine calls_H (args := [byV 16 x, byV 16 y]) noD [] Tryd.func40 rfl (m := 31) rfl rfl (hold_nil _ _) ?_
  refine HC.seq ?_
  refine HC.region ?_
  refine HL.new (New.box rfl) (by decide) ?_
  intro b1 hb1
  refine HL.new (New.box rfl) (by decide) ?_
  intro b2 hb2
  refine HL.new (New.alloc al30) (by decide) ?_
  intro b3 hb3
  refine HL.val (Val.assign rfl) (by decide) ?_
  refine HL.nil ?_
  refine HQ.next ?_
  refine HC.seq ?_
  refine HC.region ?_
  refine HL.val (Val.load_row rfl (fun w hw => hw.at (i := 2) rfl) Tryd.underlying30 rfl (by kernel_rfl)) (by decide) ?_
  refine HL.val (Val.calls en71 (fun w hw => ofT (hg.sn hw.sn rfl) hx) rfl) (by decide) ?_
  refine HL.val (Val.move rfl) (by decide) ?_
  refine HL.val (Val.extract rfl rfl) (by decide) ?_
  refine HL.val (Val.extract rfl rfl) (by decide) ?_
  refine HL.new (New.alloc al81) (by decide) ?_
  intro b4 hb4
  refine HL.put 0 rfl (Put.row rfl rfl (by kernel_rfl) (szR _ _) (rawC_one _)) (.inl hb4) ?_
  simp only [List.set_cons_zero]
  refine HL.val (Val.assign rfl) (by decide) ?_
  refine HL.nil ?_
  refine HQ.next ?_
  refine HC.seq ?_
  refine HC.region ?_
  refine HL.val (Val.load_row rfl (fun w hw => hw.at (i := 2) rfl) Tryd.underlying30 rfl (by kernel_rfl)) (by decide) ?_
  refine HL.val (Val.calls en71 (fun w hw => ofT (hg.sn hw.sn rfl) hy) rfl) (by decide) ?_
  refine HL.val (Val.move rfl) (by decide) ?_
  refine HL.val (Val.extract rfl rfl) (by decide) ?_
  refine HL.val (Val.extract rfl rfl) (by decide) ?_
  refine HL.new (New.alloc al81) (by decide) ?_
  intro b5 hb5
  refine HL.put 0 rfl (Put.row rfl rfl (by kernel_rfl) (szR _ _) (rawC_one _)) (.inl hb5) ?_
  simp only [List.set_cons_zero]
  refine HL.val (Val.assign rfl) (by decide) ?_
  refine HL.nil ?_
  refine HQ.next ?_
  refine HC.seq ?_
  refine HC.seq ?_
  refine HC.region ?_
  refine HL.val (Val.move rfl) (by decide) ?_
  refine HL.val (Val.not rfl) (by decide) ?_
  refine HL.val (Val.move rfl) (by decide) ?_
  refine HL.valg rfl (Val.move rfl) (by decide) ?_
  refine HL.valg rfl (Val.not rfl) (by decide) ?_
  refine HL.val (Val.pickF rfl rfl) (by decide) ?_
  refine HL.nil ?_
  refine HQ.next ?_
  refine HC.no rfl ?_
  refine HC.skip ?_
  refine HQ.next ?_
  refine HC.seq ?_
  refine HC.region ?_
  refine HL.new (New.alloc al81) (by decide) ?_
  intro b6 hb6
  refine HL.nil ?_
  refine HQ.next ?_
  refine HC.seq ?_
  refine HC.region ?_
  refine HL.callD en85 rfl (fpSubH (dstf1 0 rfl (.inl hb6)) (loc1 2 rfl) hx (loc1 1 rfl) hy) (by decide) ?_
  simp only [List.set_cons_zero]
  refine HL.nil ?_
  refine HQ.next ?_
  refine HC.seq ?_
  refine HC.region ?_
  refine HL.val (Val.load_row rfl (fun w hw => hw.at (i := 0) rfl) Tryd.underlying81 rfl (by kernel_rfl)) (by decide) ?_
  refine HL.val (Val.call en69 (told_p ((subF x y)) (subF_lt _ _)) rfl) (by decide) ?_
  refine HL.put 3 rfl (Put.row rfl rfl (by kernel_rfl) (szB _ _ _) (oneB _ _)) (.inl hb3) ?_
  simp only [List.set_cons_zero, List.set_cons_succ]
  refine HL.val (Val.assign rfl) (by decide) ?_
  refine HL.nil ?_
  refine HQ.next ?_
  refine HC.ret ?_
  exact HQ.retct 3 rfl rfl rfl rfl Tryd.underlying30 rfl (by kernel_rfl) (pure_end rfl)

set_option maxRecDepth 100000 in
theorem iSubFT {x y : Nat} {w : World} (hg : GR w) (hBx : x < 256 ^ 16) (hx : ¬ x < pf) (hy : y < pf) : Calls Tryd.prog 40 #[byV 16 x, byV 16 y] w fun e w' => e = .returned (.tuple #[byV 16 0, .bool false]) ∧ Below w.heap.size w w' := by
  refine calls_H (args := [byV 16 x, byV 16 y]) noD [] Tryd.func40 rfl (m := 31) rfl rfl (hold_nil _ _) ?_
  refine HC.seq ?_
  refine HC.region ?_
  refine HL.new (New.box rfl) (by decide) ?_
  intro b1 hb1
  refine HL.new (New.box rfl) (by decide) ?_
  intro b2 hb2
  refine HL.new (New.alloc al30) (by decide) ?_
  intro b3 hb3
  refine HL.val (Val.assign rfl) (by decide) ?_
  refine HL.nil ?_
  refine HQ.next ?_
  refine HC.seq ?_
  refine HC.region ?_
  refine HL.val (Val.load_row rfl (fun w hw => hw.at (i := 2) rfl) Tryd.underlying30 rfl (by kernel_rfl)) (by decide) ?_
  refine HL.val (Val.calls en71 (fun w hw => ofF hBx hx) rfl) (by decide) ?_
  refine HL.val (Val.move rfl) (by decide) ?_
  refine HL.val (Val.extract rfl rfl) (by decide) ?_
  refine HL.val (Val.extract rfl rfl) (by decide) ?_
  refine HL.new (New.alloc al81) (by decide) ?_
  intro b4 hb4
  refine HL.put 0 rfl (Put.row rfl rfl (by kernel_rfl) (szR _ _) (rawC_one _)) (.inl hb4) ?_
  simp only [List.set_cons_zero]
  refine HL.val (Val.assign rfl) (by decide) ?_
  refine HL.nil ?_
  refine HQ.next ?_
  refine HC.seq ?_
  refine HC.region ?_
  refine HL.val (Val.load_row rfl (fun w hw => hw.at (i := 2) rfl) Tryd.underlying30 rfl (by kernel_rfl)) (by decide) ?_
  refine HL.val (Val.calls en71 (fun w hw => ofT (hg.sn hw.sn rfl) hy) rfl) (by decide) ?_
  refine HL.val (Val.move rfl) (by decide) ?_
  refine HL.val (Val.extract rfl rfl) (by decide) ?_
  refine HL.val (Val.extract rfl rfl) (by decide) ?_
  refine HL.new (New.alloc al81) (by decide) ?_
  intro b5 hb5
  refine HL.put 0 rfl (Put.row rfl rfl (by kernel_rfl) (szR _ _) (rawC_one _)) (.inl hb5) ?_
  simp only [List.set_cons_zero]
  refine HL.val (Val.assign rfl) (by decide) ?_
  refine HL.nil ?_
  refine HQ.next ?_
  refine HC.seq ?_
  refine HC.seq ?_
  refine HC.region ?_
  refine HL.val (Val.move rfl) (by decide) ?_
  refine HL.val (Val.not rfl) (by decide) ?_
  refine HL.val (Val.move rfl) (by decide) ?_
  refine HL.skip rfl (by decide) ?_
  refine HL.skip rfl (by decide) ?_
  refine HL.val (Val.pickT rfl rfl) (by decide) ?_
  refine HL.nil ?_
  refine HQ.next ?_
  refine HC.yes rfl ?_
  refine HC.seq ?_
  refine HC.region ?_
  refine HL.val (Val.build rfl built_by0) (by decide) ?_
  refine HL.put 2 rfl (Put.row rfl rfl (by kernel_rfl) (szB _ _ _) (oneB _ _)) (.inl hb3) ?_
  simp only [List.set_cons_zero, List.set_cons_succ]
  refine HL.val (Val.assign rfl) (by decide) ?_
  refine HL.nil ?_
  refine HQ.next ?_
  refine HC.ret ?_
  refine HQ.thenRet ?_
  exact HQ.retct 2 rfl rfl rfl rfl Tryd.underlying30 rfl (by kernel_rfl) (pure_end rfl)

set_option maxRecDepth 100000 in
theorem iSubTF {x y : Nat} {w : World} (hg : GR w) (hx : x < pf) (hBy : y < 256 ^ 16) (hy : ¬ y < pf) : Calls Tryd.prog 40 #[byV 16 x, byV 16 y] w fun e w' => e = .returned (.tuple #[byV 16 0, .bool false]) ∧ Below w.heap.size w w' := by
  refine calls_H (args := [byV 16 x, byV 16 y]) noD [] Tryd.func40 rfl (m := 31) rfl rfl (hold_nil _ _) ?_
  refine HC.seq ?_
  refine HC.region ?_
  refine HL.new (New.box rfl) (by decide) ?_
  intro b1 hb1
  refine HL.new (New.box rfl) (by decide) ?_
  intro b2 hb2
  refine HL.new (New.alloc al30) (by decide) ?_
  intro b3 hb3
  refine HL.val (Val.assign rfl) (by decide) ?_
  refine HL.nil ?_
  refine HQ.next ?_
  refine HC.seq ?_
  refine HC.region ?_
  refine HL.val (Val.load_row rfl (fun w hw => hw.at (i := 2) rfl) Tryd.underlying30 rfl (by kernel_rfl)) (by decide) ?_
  refine HL.val (Val.calls en71 (fun w hw => ofT (hg.sn hw.sn rfl) hx) rfl) (by decide) ?_
  refine HL.val (Val.move rfl) (by decide) ?_
  refine HL.val (Val.extract rfl rfl) (by decide) ?_
  refine HL.val (Val.extract rfl rfl) (by decide) ?_
  refine HL.new (New.alloc al81) (by decide) ?_
  intro b4 hb4
  refine HL.put 0 rfl (Put.row rfl rfl (by kernel_rfl) (szR _ _) (rawC_one _)) (.inl hb4) ?_
  simp only [List.set_cons_zero]
  refine HL.val (Val.assign rfl) (by decide) ?_
  refine HL.nil ?_
  refine HQ.next ?_
  refine HC.seq ?_
  refine HC.region ?_
  refine HL.val (Val.load_row rfl (fun w hw => hw.at (i := 2) rfl) Tryd.underlying30 rfl (by kernel_rfl)) (by decide) ?_
  refine HL.val (Val.calls en71 (fun w hw => ofF hBy hy) rfl) (by decide) ?_
  refine HL.val (Val.move rfl) (by decide) ?_
  refine HL.val (Val.extract rfl rfl) (by decide) ?_
  refine HL.val (Val.extract rfl rfl) (by decide) ?_
  refine HL.new (New.alloc al81) (by decide) ?_
  intro b5 hb5
  refine HL.put 0 rfl (Put.row rfl rfl (by kernel_rfl) (szR _ _) (rawC_one _)) (.inl hb5) ?_
  simp only [List.set_cons_zero]
  refine HL.val (Val.assign rfl) (by decide) ?_
  refine HL.nil ?_
  refine HQ.next ?_
  refine HC.seq ?_
  refine HC.seq ?_
  refine HC.region ?_
  refine HL.val (Val.move rfl) (by decide) ?_
  refine HL.val (Val.not rfl) (by decide) ?_
  refine HL.val (Val.move rfl) (by decide) ?_
  refine HL.valg rfl (Val.move rfl) (by decide) ?_
  refine HL.valg rfl (Val.not rfl) (by decide) ?_
  refine HL.val (Val.pickF rfl rfl) (by decide) ?_
  refine HL.nil ?_
  refine HQ.next ?_
  refine HC.yes rfl ?_
  refine HC.seq ?_
  refine HC.region ?_
  refine HL.val (Val.build rfl built_by0) (by decide) ?_
  refine HL.put 2 rfl (Put.row rfl rfl (by kernel_rfl) (szB _ _ _) (oneB _ _)) (.inl hb3) ?_
  simp only [List.set_cons_zero, List.set_cons_succ]
  refine HL.val (Val.assign rfl) (by decide) ?_
  refine HL.nil ?_
  refine HQ.next ?_
  refine HC.ret ?_
  refine HQ.thenRet ?_
  exact HQ.retct 2 rfl rfl rfl rfl Tryd.underlying30 rfl (by kernel_rfl) (pure_end rfl)

set_option maxRecDepth 100000 in
theorem iSubFF {x y : Nat} {w : World} (hBx : x < 256 ^ 16) (hx : ¬ x < pf) (hBy : y < 256 ^ 16) (hy : ¬ y < pf) : Calls Tryd.prog 40 #[byV 16 x, byV 16 y] w fun e w' => e = .returned (.tuple #[byV 16 0, .bool false]) ∧ Below w.heap.size w w' := by
  refine calls_H (args := [byV 16 x, byV 16 y]) noD [] Tryd.func40 rfl (m := 31) rfl rfl (hold_nil _ _) ?_
  refine HC.seq ?_
  refine HC.region ?_
  refine HL.new (New.box rfl) (by decide) ?_
  intro b1 hb1
  refine HL.new (New.box rfl) (by decide) ?_
  intro b2 hb2
  refine HL.new (New.alloc al30) (by decide) ?_
  intro b3 hb3
  refine HL.val (Val.assign rfl) (by decide) ?_
  refine HL.nil ?_
  refine HQ.next ?_
  refine HC.seq ?_
  refine HC.region ?_
  refine HL.val (Val.load_row rfl (fun w hw => hw.at (i := 2) rfl) Tryd.underlying30 rfl (by kernel_rfl)) (by decide) ?_
  refine HL.val (Val.calls en71 (fun w hw => ofF hBx hx) rfl) (by decide) ?_
  refine HL.val (Val.move rfl) (by decide) ?_
  refine HL.val (Val.extract rfl rfl) (by decide) ?_
  refine HL.val (Val.extract rfl rfl) (by decide) ?_
  refine HL.new (New.alloc al81) (by decide) ?_
  intro b4 hb4
  refine HL.put 0 rfl (Put.row rfl rfl (by kernel_rfl) (szR _ _) (rawC_one _)) (.inl hb4) ?_
  simp only [List.set_cons_zero]
  refine HL.val (Val.assign rfl) (by decide) ?_
  refine HL.nil ?_
  refine HQ.next ?_
  refine HC.seq ?_
  refine HC.region ?_
  refine HL.val (Val.load_row rfl (fun w hw => hw.at (i := 2) rfl) Tryd.underlying30 rfl (by kernel_rfl)) (by decide) ?_
  refine HL.val (Val.calls en71 (fun w hw => ofF hBy hy) rfl) (by decide) ?_
  refine HL.val (Val.move rfl) (by decide) ?_
  refine HL.val (Val.extract rfl rfl) (by decide) ?_
  refine HL.val (Val.extract rfl rfl) (by decide) ?_
  refine HL.new (New.alloc al81) (by decide) ?_
  intro b5 hb5
  refine HL.put 0 rfl (Put.row rfl rfl (by kernel_rfl) (szR _ _) (rawC_one _)) (.inl hb5) ?_
  simp only [List.set_cons_zero]
  refine HL.val (Val.assign rfl) (by decide) ?_
  refine HL.nil ?_
  refine HQ.next ?_
  refine HC.seq ?_
  refine HC.seq ?_
  refine HC.region ?_
  refine HL.val (Val.move rfl) (by decide) ?_
  refine HL.val (Val.not rfl) (by decide) ?_
  refine HL.val (Val.move rfl) (by decide) ?_
  refine HL.skip rfl (by decide) ?_
  refine HL.skip rfl (by decide) ?_
  refine HL.val (Val.pickT rfl rfl) (by decide) ?_
  refine HL.nil ?_
  refine HQ.next ?_
  refine HC.yes rfl ?_
  refine HC.seq ?_
  refine HC.region ?_
  refine HL.val (Val.build rfl built_by0) (by decide) ?_
  refine HL.put 2 rfl (Put.row rfl rfl (by kernel_rfl) (szB _ _ _) (oneB _ _)) (.inl hb3) ?_
  simp only [List.set_cons_zero, List.set_cons_succ]
  refine HL.val (Val.assign rfl) (by decide) ?_
  refine HL.nil ?_
  refine HQ.next ?_
  refine HC.ret ?_
  refine HQ.thenRet ?_
  exact HQ.retct 2 rfl rfl rfl rfl Tryd.underlying30 rfl (by kernel_rfl) (pure_end rfl)

theorem iSubF {x y : Nat} {w : World} (hg : GR w) (hBx : x < 256 ^ 16) (hBy : y < 256 ^ 16) (h : ¬ (x < pf ∧ y < pf)) : Calls Tryd.prog 40 #[byV 16 x, byV 16 y] w fun e w' => e = .returned (.tuple #[byV 16 0, .bool false]) ∧ Below w.heap.size w w' := by
  by_cases hx : x < pf
  · by_cases hy : y < pf
    · exact absurd ⟨hx, hy⟩ h
    · exact iSubTF hg hx hBy hy
  · by_cases hy : y < pf
    · exact iSubFT hg hBx hx hy
    · exact iSubFF hBx hx hBy hy

set_option maxRecDepth 100000 in
theorem iMulTT {x y : Nat} {w : World} (hg : GR w) (hx : x < pf) (hy : y < pf) : Calls Tryd.prog 33 #[byV 16 x, byV 16 y] w fun e w' => e = .returned (.tuple #[byV 16 (x * y % pf), .bool true]) ∧ Below w.heap.size w w' := by
  refine calls_H (args := [byV 16 x, byV 16 y]) noD [] Tryd.func33 rfl (m := 31) rfl rfl (hold_nil _ _) ?_
  refine HC.seq ?_
  refine HC.region ?_
  refine HL.new (New.box rfl) (by decide) ?_
  intro b1 hb1
  refine HL.new (New.box rfl) (by decide) ?_
  intro b2 hb2
  refine HL.new (New.alloc al30) (by decide) ?_
  intro b3 hb3
  refine HL.val (Val.assign rfl) (by decide) ?_
  refine HL.nil ?_
  refine HQ.next ?_
  refine HC.seq ?_
  refine HC.region ?_
  refine HL.val (Val.load_row rfl (fun w hw => hw.at (i := 2) rfl) Tryd.underlying30 rfl (by kernel_rfl)) (by decide) ?_
  refine HL.val (Val.calls en71 (fun w hw => ofT (hg.sn hw.sn rfl) hx) rfl) (by decide) ?_
  refine HL.val (Val.move rfl) (by decide) ?_
  refine HL.val (Val.extract rfl rfl) (by decide) ?_
  refine HL.val (Val.extract rfl rfl) (by decide) ?_
  refine HL.new (New.alloc al81) (by decide) ?_
  intro b4 hb4
  refine HL.put 0 rfl (Put.row rfl rfl (by kernel_rfl) (szR _ _) (rawC_one _)) (.inl hb4) ?_
  simp only [List.set_cons_zero]
  refine HL.val (Val.assign rfl) (by decide) ?_
  refine HL.nil ?_
  refine HQ.next ?_
  refine HC.seq ?_
  refine HC.region ?_
  refine HL.val (Val.load_row rfl (fun w hw => hw.at (i := 2) rfl) Tryd.underlying30 rfl (by kernel_rfl)) (by decide) ?_
  refine HL.val (Val.calls en71 (fun w hw => ofT (hg.sn hw.sn rfl) hy) rfl) (by decide) ?_
  refine HL.val (Val.move rfl) (by decide) ?_
  refine HL.val (Val.extract rfl rfl) (by decide) ?_
  refine HL.val (Val.extract rfl rfl) (by decide) ?_
  refine HL.new (New.alloc al81) (by decide) ?_
  intro b5 hb5
  refine HL.put 0 rfl (Put.row rfl rfl (by kernel_rfl) (szR _ _) (rawC_one _)) (.inl hb5) ?_
  simp only [List.set_cons_zero]
  refine HL.val (Val.assign rfl) (by decide) ?_
  refine HL.nil ?_
  refine HQ.next ?_
  refine HC.seq ?_
  refine HC.seq ?_
  refine HC.region ?_
  refine HL.val (Val.move rfl) (by decide) ?_
  refine HL.val (Val.not rfl) (by decide) ?_
  refine HL.val (Val.move rfl) (by decide) ?_
  refine HL.valg rfl (Val.move rfl) (by decide) ?_
  refine HL.valg rfl (Val.not rfl) (by decide) ?_
  refine HL.val (Val.pickF rfl rfl) (by decide) ?_
  refine HL.nil ?_
  refine HQ.next ?_
  refine HC.no rfl ?_
  refine HC.skip ?_
  refine HQ.next ?_
  refine HC.seq ?_
  refine HC.region ?_
  refine HL.new (New.alloc al81) (by decide) ?_
  intro b6 hb6
  refine HL.nil ?_
  refine HQ.next ?_
  refine HC.seq ?_
  refine HC.region ?_
  refine HL.callD en80 rfl (fpMulH (dstf1 0 rfl (.inl hb6)) (loc1 2 rfl) hx (loc1 1 rfl) hy) (by decide) ?_
  simp only [List.set_cons_zero]
  refine HL.nil ?_
  refine HQ.next ?_
  refine HC.seq ?_
  refine HC.region ?_
  refine HL.val (Val.load_row rfl (fun w hw => hw.at (i := 0) rfl) Tryd.underlying81 rfl (by kernel_rfl)) (by decide) ?_
  refine HL.val (Val.call en69 (told_p ((x * y % pf)) (Nat.mod_lt _ pf_pos)) rfl) (by decide) ?_
  refine HL.put 3 rfl (Put.row rfl rfl (by kernel_rfl) (szB _ _ _) (oneB _ _)) (.inl hb3) ?_
  simp only [List.set_cons_zero, List.set_cons_succ]
  refine HL.val (Val.assign rfl) (by decide) ?_
  refine HL.nil ?_
  refine HQ.next ?_
  refine HC.ret ?_
  exact HQ.retct 3 rfl rfl rfl rfl Tryd.underlying30 rfl (by kernel_rfl) (pure_end rfl)

set_option maxRecDepth 100000 in
theorem iMulFT {x y : Nat} {w : World} (hg : GR w) (hBx : x < 256 ^ 16) (hx : ¬ x < pf) (hy : y < pf) : Calls Tryd.prog 33 #[byV 16 x, byV 16 y] w fun e w' => e = .returned (.tuple #[byV 16 0, .bool false]) ∧ Below w.heap.size w w' := by
  refine calls_H (args := [byV 16 x, byV 16 y]) noD [] Tryd.func33 rfl (m := 31) rfl rfl (hold_nil _ _) ?_
  refine HC.seq ?_
  refine HC.region ?_
  refine HL.new (New.box rfl) (by decide) ?_
  intro b1 hb1
  refine HL.new (New.box rfl) (by decide) ?_
  intro b2 hb2
  refine HL.new (New.alloc al30) (by decide) ?_
  intro b3 hb3
  refine HL.val (Val.assign rfl) (by decide) ?_
  refine HL.nil ?_
  refine HQ.next ?_
  refine HC.seq ?_
  refine HC.region ?_
  refine HL.val (Val.load_row rfl (fun w hw => hw.at (i := 2) rfl) Tryd.underlying30 rfl (by kernel_rfl)) (by decide) ?_
  refine HL.val (Val.calls en71 (fun w hw => ofF hBx hx) rfl) (by decide) ?_
  refine HL.val (Val.move rfl) (by decide) ?_
  refine HL.val (Val.extract rfl rfl) (by decide) ?_
  refine HL.val (Val.extract rfl rfl) (by decide) ?_
  refine HL.new (New.alloc al81) (by decide) ?_
  intro b4 hb4
  refine HL.put 0 rfl (Put.row rfl rfl (by kernel_rfl) (szR _ _) (rawC_one _)) (.inl hb4) ?_
  simp only [List.set_cons_zero]
  refine HL.val (Val.assign rfl) (by decide) ?_
  refine HL.nil ?_
  refine HQ.next ?_
  refine HC.seq ?_
  refine HC.region ?_
  refine HL.val (Val.load_row rfl (fun w hw => hw.at (i := 2) rfl) Tryd.underlying30 rfl (by kernel_rfl)) (by decide) ?_
  refine HL.val (Val.calls en71 (fun w hw => ofT (hg.sn hw.sn rfl) hy) rfl) (by decide) ?_
  refine HL.val (Val.move rfl) (by decide) ?_
  refine HL.val (Val.extract rfl rfl) (by decide) ?_
  refine HL.val (Val.extract rfl rfl) (by decide) ?_
  refine HL.new (New.alloc al81) (by decide) ?_
  intro b5 hb5
  refine HL.put 0 rfl (Put.row rfl rfl (by kernel_rfl) (szR _ _) (rawC_one _)) (.inl hb5) ?_
  simp only [List.set_cons_zero]
  refine HL.val (Val.assign rfl) (by decide) ?_
  refine HL.nil ?_
  refine HQ.next ?_
  refine HC.seq ?_
  refine HC.seq ?_
  refine HC.region ?_
  refine HL.val (Val.move rfl) (by decide) ?_
  refine HL.val (Val.not rfl) (by decide) ?_
  refine HL.val (Val.move rfl) (by decide) ?_
  refine HL.skip rfl (by decide) ?_
  refine HL.skip rfl (by decide) ?_
  refine HL.val (Val.pickT rfl rfl) (by decide) ?_
  refine HL.nil ?_
  refine HQ.next ?_
  refine HC.yes rfl ?_
  refine HC.seq ?_
  refine HC.region ?_
  refine HL.val (Val.build rfl built_by0) (by decide) ?_
  refine HL.put 2 rfl (Put.row rfl rfl (by kernel_rfl) (szB _ _ _) (oneB _ _)) (.inl hb3) ?_
  simp only [List.set_cons_zero, List.set_cons_succ]
  refine HL.val (Val.assign rfl) (by decide) ?_
  refine HL.nil ?_
  refine HQ.next ?_
  refine HC.ret ?_
  refine HQ.thenRet ?_
  exact HQ.retct 2 rfl rfl rfl rfl Tryd.underlying30 rfl (by kernel_rfl) (pure_end rfl)

set_option maxRecDepth 100000 in
theorem iMulTF {x y : Nat} {w : World} (hg : GR w) (hx : x < pf) (hBy : y < 256 ^ 16) (hy : ¬ y < pf) : Calls Tryd.prog 33 #[byV 16 x, byV 16 y] w fun e w' => e = .returned (.tuple #[byV 16 0, .bool false]) ∧ Below w.heap.size w w' := by
  refine calls_H (args := [byV 16 x, byV 16 y]) noD [] Tryd.func33 rfl (m := 31) rfl rfl (hold_nil _ _) ?_
  refine HC.seq ?_
  refine HC.region ?_
  refine HL.new (New.box rfl) (by decide) ?_
  intro b1 hb1
  refine HL.new (New.box rfl) (by decide) ?_
  intro b2 hb2
  refine HL.new (New.alloc al30) (by decide) ?_
  intro b3 hb3
  refine HL.val (Val.assign rfl) (by decide) ?_
  refine HL.nil ?_
  refine HQ.next ?_
  refine HC.seq ?_
  refine HC.region ?_
  refine HL.val (Val.load_row rfl (fun w hw => hw.at (i := 2) rfl) Tryd.underlying30 rfl (by kernel_rfl)) (by decide) ?_
  refine HL.val (Val.calls en71 (fun w hw => ofT (hg.sn hw.sn rfl) hx) rfl) (by decide) ?_
  refine HL.val (Val.move rfl) (by decide) ?_
  refine HL.val (Val.extract rfl rfl) (by decide) ?_
  refine HL.val (Val.extract rfl rfl) (by decide) ?_
  refine HL.new (New.alloc al81) (by decide) ?_
  intro b4 hb4
  refine HL.put 0 rfl (Put.row rfl rfl (by kernel_rfl) (szR _ _) (rawC_one _)) (.inl hb4) ?_
  simp only [List.set_cons_zero]
  refine HL.val (Val.assign rfl) (by decide) ?_
  refine HL.nil ?_
  refine HQ.next ?_
  refine HC.seq ?_
  refine HC.region ?_
  refine HL.val (Val.load_row rfl (fun w hw => hw.at (i := 2) rfl) Tryd.underlying30 rfl (by kernel_rfl)) (by decide) ?_
  refine HL.val (Val.calls en71 (fun w hw => ofF hBy hy) rfl) (by decide) ?_
  refine HL.val (Val.move rfl) (by decide) ?_
  refine HL.val (Val.extract rfl rfl) (by decide) ?_
  refine HL.val (Val.extract rfl rfl) (by decide) ?_
  refine HL.new (New.alloc al81) (by decide) ?_
  intro b5 hb5
  refine HL.put 0 rfl (Put.row rfl rfl (by kernel_rfl) (szR _ _) (rawC_one _)) (.inl hb5) ?_
  simp only [List.set_cons_zero]
  refine HL.val (Val.assign rfl) (by decide) ?_
  refine HL.nil ?_
  refine HQ.next ?_
  refine HC.seq ?_
  refine HC.seq ?_
  refine HC.region ?_
  refine HL.val (Val.move rfl) (by decide) ?_
  refine HL.val (Val.not rfl) (by decide) ?_
  refine HL.val (Val.move rfl) (by decide) ?_
  refine HL.valg rfl (Val.move rfl) (by decide) ?_
  refine HL.valg rfl (Val.not rfl) (by decide) ?_
  refine HL.val (Val.pickF rfl rfl) (by decide) ?_
  refine HL.nil ?_
  refine HQ.next ?_
  refine HC.yes rfl ?_
  refine HC.seq ?_
  refine HC.region ?_
  refine HL.val (Val.build rfl built_by0) (by decide) ?_
  refine HL.put 2 rfl (Put.row rfl rfl (by kernel_rfl) (szB _ _ _) (oneB _ _)) (.inl hb3) ?_
  simp only [List.set_cons_zero, List.set_cons_succ]
  refine HL.val (Val.assign rfl) (by decide) ?_
  refine HL.nil ?_
  refine HQ.next ?_
  refine HC.ret ?_
  refine HQ.thenRet ?_
  exact HQ.retct 2 rfl rfl rfl rfl Tryd.underlying30 rfl (by kernel_rfl) (pure_end rfl)

set_option maxRecDepth 100000 in
theorem iMulFF {x y : Nat} {w : World} (hBx : x < 256 ^ 16) (hx : ¬ x < pf) (hBy : y < 256 ^ 16) (hy : ¬ y < pf) : Calls Tryd.prog 33 #[byV 16 x, byV 16 y] w fun e w' => e = .returned (.tuple #[byV 16 0, .bool false]) ∧ Below w.heap.size w w' := by
  refine calls_H (args := [byV 16 x, byV 16 y]) noD [] Tryd.func33 rfl (m := 31) rfl rfl (hold_nil _ _) ?_
  refine HC.seq ?_
  refine HC.region ?_
  refine HL.new (New.box rfl) (by decide) ?_
  intro b1 hb1
  refine HL.new (New.box rfl) (by decide) ?_
  intro b2 hb2
  refine HL.new (New.alloc al30) (by decide) ?_
  intro b3 hb3
  refine HL.val (Val.assign rfl) (by decide) ?_
  refine HL.nil ?_
  refine HQ.next ?_
  refine HC.seq ?_
  refine HC.region ?_
  refine HL.val (Val.load_row rfl (fun w hw => hw.at (i := 2) rfl) Tryd.underlying30 rfl (by kernel_rfl)) (by decide) ?_
  refine HL.val (Val.calls en71 (fun w hw => ofF hBx hx) rfl) (by decide) ?_
  refine HL.val (Val.move rfl) (by decide) ?_
  refine HL.val (Val.extract rfl rfl) (by decide) ?_
  refine HL.val (Val.extract rfl rfl) (by decide) ?_
  refine HL.new (New.alloc al81) (by decide) ?_
  intro b4 hb4
  refine HL.put 0 rfl (Put.row rfl rfl (by kernel_rfl) (szR _ _) (rawC_one _)) (.inl hb4) ?_
  simp only [List.set_cons_zero]
  refine HL.val (Val.assign rfl) (by decide) ?_
  refine HL.nil ?_
  refine HQ.next ?_
  refine HC.seq ?_
  refine HC.region ?_
  refine HL.val (Val.load_row rfl (fun w hw => hw.at (i := 2) rfl) Tryd.underlying30 rfl (by kernel_rfl)) (by decide) ?_
  refine HL.val (Val.calls en71 (fun w hw => ofF hBy hy) rfl) (by decide) ?_
  refine HL.val (Val.move rfl) (by decide) ?_
  refine HL.val (Val.extract rfl rfl) (by decide) ?_
  refine HL.val (Val.extract rfl rfl) (by decide) ?_
  refine HL.new (New.alloc al81) (by decide) ?_
  intro b5 hb5
  refine HL.put 0 rfl (Put.row rfl rfl (by kernel_rfl) (szR _ _) (rawC_one _)) (.inl hb5) ?_
  simp only [List.set_cons_zero]
  refine HL.val (Val.assign rfl) (by decide) ?_
  refine HL.nil ?_
  refine HQ.next ?_
  refine HC.seq ?_
  refine HC.seq ?_
  refine HC.region ?_
  refine HL.val (Val.move rfl) (by decide) ?_
  refine HL.val (Val.not rfl) (by decide) ?_
  refine HL.val (Val.move rfl) (by decide) ?_
  refine HL.skip rfl (by decide) ?_
  refine HL.skip rfl (by decide) ?_
  refine HL.val (Val.pickT rfl rfl) (by decide) ?_
  refine HL.nil ?_
  refine HQ.next ?_
  refine HC.yes rfl ?_
  refine HC.seq ?_
  refine HC.region ?_
  refine HL.val (Val.build rfl built_by0) (by decide) ?_
  refine HL.put 2 rfl (Put.row rfl rfl (by kernel_rfl) (szB _ _ _) (oneB _ _)) (.inl hb3) ?_
  simp only [List.set_cons_zero, List.set_cons_succ]
  refine HL.val (Val.assign rfl) (by decide) ?_
  refine HL.nil ?_
  refine HQ.next ?_
  refine HC.ret ?_
  refine HQ.thenRet ?_
  exact HQ.retct 2 rfl rfl rfl rfl Tryd.underlying30 rfl (by kernel_rfl) (pure_end rfl)

theorem iMulF {x y : Nat} {w : World} (hg : GR w) (hBx : x < 256 ^ 16) (hBy : y < 256 ^ 16) (h : ¬ (x < pf ∧ y < pf)) : Calls Tryd.prog 33 #[byV 16 x, byV 16 y] w fun e w' => e = .returned (.tuple #[byV 16 0, .bool false]) ∧ Below w.heap.size w w' := by
  by_cases hx : x < pf
  · by_cases hy : y < pf
    · exact absurd ⟨hx, hy⟩ h
    · exact iMulTF hg hx hBy hy
  · by_cases hy : y < pf
    · exact iMulFT hg hBx hx hy
    · exact iMulFF hBx hx hBy hy

set_option maxRecDepth 100000 in
theorem iSqrT {x : Nat} {w : World} (hg : GR w) (hx : x < pf) : Calls Tryd.prog 44 #[byV 16 x] w fun e w' => e = .returned (.tuple #[byV 16 (x * x % pf), .bool true]) ∧ Below w.heap.size w w' := by
  refine calls_H (args := [byV 16 x]) noD [] Tryd.func44 rfl (m := 18) rfl rfl (hold_nil _ _) ?_
  refine HC.seq ?_
  refine HC.region ?_
  refine HL.new (New.box rfl) (by decide) ?_
  intro b1 hb1
  refine HL.new (New.alloc al30) (by decide) ?_
  intro b2 hb2
  refine HL.val (Val.assign rfl) (by decide) ?_
  refine HL.nil ?_
  refine HQ.next ?_
  refine HC.seq ?_
  refine HC.region ?_
  refine HL.val (Val.load_row rfl (fun w hw => hw.at (i := 1) rfl) Tryd.underlying30 rfl (by kernel_rfl)) (by decide) ?_
  refine HL.val (Val.calls en71 (fun w hw => ofT (hg.sn hw.sn rfl) hx) rfl) (by decide) ?_
  refine HL.val (Val.move rfl) (by decide) ?_
  refine HL.val (Val.extract rfl rfl) (by decide) ?_
  refine HL.val (Val.extract rfl rfl) (by decide) ?_
  refine HL.new (New.alloc al81) (by decide) ?_
  intro b3 hb3
  refine HL.put 0 rfl (Put.row rfl rfl (by kernel_rfl) (szR _ _) (rawC_one _)) (.inl hb3) ?_
  simp only [List.set_cons_zero]
  refine HL.val (Val.assign rfl) (by decide) ?_
  refine HL.nil ?_
  refine HQ.next ?_
  refine HC.seq ?_
  refine HC.seq ?_
  refine HC.region ?_
  refine HL.val (Val.move rfl) (by decide) ?_
  refine HL.val (Val.not rfl) (by decide) ?_
  refine HL.nil ?_
  refine HQ.next ?_
  refine HC.no rfl ?_
  refine HC.skip ?_
  refine HQ.next ?_
  refine HC.seq ?_
  refine HC.region ?_
  refine HL.new (New.alloc al81) (by decide) ?_
  intro b4 hb4
  refine HL.nil ?_
  refine HQ.next ?_
  refine HC.seq ?_
  refine HC.region ?_
  refine HL.callD en87 rfl (fpSqrH (dstf1 0 rfl (.inl hb4)) (loc1 1 rfl) hx) (by decide) ?_
  simp only [List.set_cons_zero]
  refine HL.nil ?_
  refine HQ.next ?_
  refine HC.seq ?_
  refine HC.region ?_
  refine HL.val (Val.load_row rfl (fun w hw => hw.at (i := 0) rfl) Tryd.underlying81 rfl (by kernel_rfl)) (by decide) ?_
  refine HL.val (Val.call en69 (told_p ((x * x % pf)) (Nat.mod_lt _ pf_pos)) rfl) (by decide) ?_
  refine HL.put 2 rfl (Put.row rfl rfl (by kernel_rfl) (szB _ _ _) (oneB _ _)) (.inl hb2) ?_
  simp only [List.set_cons_zero, List.set_cons_succ]
  refine HL.val (Val.assign rfl) (by decide) ?_
  refine HL.nil ?_
  refine HQ.next ?_
  refine HC.ret ?_
  exact HQ.retct 2 rfl rfl rfl rfl Tryd.underlying30 rfl (by kernel_rfl) (pure_end rfl)

set_option maxRecDepth 100000 in
theorem iSqrF {x : Nat} {w : World} (hBx : x < 256 ^ 16) (hx : ¬ x < pf) : Calls Tryd.prog 44 #[byV 16 x] w fun e w' => e = .returned (.tuple #[byV 16 0, .bool false]) ∧ Below w.heap.size w w' := by
  refine calls_H (args := [byV 16 x]) noD [] Tryd.func44 rfl (m := 18) rfl rfl (hold_nil _ _) ?_
  refine HC.seq ?_
  refine HC.region ?_
  refine HL.new (New.box rfl) (by decide) ?_
  intro b1 hb1
  refine HL.new (New.alloc al30) (by decide) ?_
  intro b2 hb2
  refine HL.val (Val.assign rfl) (by decide) ?_
  refine HL.nil ?_
  refine HQ.next ?_
  refine HC.seq ?_
  refine HC.region ?_
  refine HL.val (Val.load_row rfl (fun w hw => hw.at (i := 1) rfl) Tryd.underlying30 rfl (by kernel_rfl)) (by decide) ?_
  refine HL.val (Val.calls en71 (fun w hw => ofF hBx hx) rfl) (by decide) ?_
  refine HL.val (Val.move rfl) (by decide) ?_
  refine HL.val (Val.extract rfl rfl) (by decide) ?_
  refine HL.val (Val.extract rfl rfl) (by decide) ?_
  refine HL.new (New.alloc al81) (by decide) ?_
  intro b3 hb3
  refine HL.put 0 rfl (Put.row rfl rfl (by kernel_rfl) (szR _ _) (rawC_one _)) (.inl hb3) ?_
  simp only [List.set_cons_zero]
  refine HL.val (Val.assign rfl) (by decide) ?_
  refine HL.nil ?_
  refine HQ.next ?_
  refine HC.seq ?_
  refine HC.seq ?_
  refine HC.region ?_
  refine HL.val (Val.move rfl) (by decide) ?_
  refine HL.val (Val.not rfl) (by decide) ?_
  refine HL.nil ?_
  refine HQ.next ?_
  refine HC.yes rfl ?_
  refine HC.seq ?_
  refine HC.region ?_
  refine HL.val (Val.build rfl built_by0) (by decide) ?_
  refine HL.put 1 rfl (Put.row rfl rfl (by kernel_rfl) (szB _ _ _) (oneB _ _)) (.inl hb2) ?_
  simp only [List.set_cons_zero, List.set_cons_succ]
  refine HL.val (Val.assign rfl) (by decide) ?_
  refine HL.nil ?_
  refine HQ.next ?_
  refine HC.ret ?_
  refine HQ.thenRet ?_
  exact HQ.retct 1 rfl rfl rfl rfl Tryd.underlying30 rfl (by kernel_rfl) (pure_end rfl)
end Go.Proofs.YtgdfdkpkhjbibaaDoor
