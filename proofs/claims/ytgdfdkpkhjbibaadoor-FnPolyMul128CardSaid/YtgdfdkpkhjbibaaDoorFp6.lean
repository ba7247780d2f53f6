/-
  Numbers of 64 bits, powers and inverses, the order (written by genfp6.py).
-/
import Derived.Test.YtgdfdkpkhjbibaaDoorFp5
import Derived.Test.YtgdfdkpkhjbibaaDoorMPrimes
namespace Go.Proofs.YtgdfdkpkhjbibaaDoor
open Go.RowKit
/-- The exponent of the inverse. -/
def invE : Nat := 340282366920938462946865773367900766207
/-- A power modulo the order. -/
theorem pwX_ex : ∃ f : Nat → Nat → Nat, ∀ a b, f a b = a ^ b % pf := ⟨_, fun _ _ => rfl⟩
noncomputable def pwX : Nat → Nat → Nat := Classical.choose pwX_ex
theorem pwX_eq (a b : Nat) : pwX a b = a ^ b % pf := Classical.choose_spec pwX_ex a b
theorem pwX_lt (a b : Nat) : pwX a b < pf := by rw [pwX_eq]; exact Nat.mod_lt _ pf_pos
theorem pwX_mul (x : Nat) {a b c : Nat} (h : a + b = c) : pwX x a * pwX x b % pf = pwX x c := by simp only [pwX_eq]; exact pw_mul x h
theorem sqX_ex : ∃ f : Nat → Nat → Nat, ∀ a b, f a b = a ^ 2 ^ b % pf := ⟨_, fun _ _ => rfl⟩
noncomputable def sqX : Nat → Nat → Nat := Classical.choose sqX_ex
theorem sqX_eq (a b : Nat) : sqX a b = a ^ 2 ^ b % pf := Classical.choose_spec sqX_ex a b
theorem pwX_sqn (x : Nat) {a b c : Nat} (h : a * 2 ^ b = c) : sqX (pwX x a) b = pwX x c := by simp only [sqX_eq, pwX_eq]; exact pw_sqn x h
theorem pwX_one {x : Nat} (px : x < pf) : pwX x 1 = x := by rw [pwX_eq, Nat.pow_one, Nat.mod_eq_of_lt px]
theorem notNil {P : Program} {n : Nat} {σ : List (Nat × Value)} {I : World → Prop} {dst : Option Tmp} {ty : TypeId} {pos : String} {af : Array Edge} {gd : Option (Nat × Bool)} {t t2 u : TypeId} {x : Operand} {v : Value} (hx : evS σ x = some (.iface u v)) (hu : P.underlying t = some (.interface (P.methodsAt t))) :
    Val P n σ I ⟨dst, .binOp .neq t x (.const .nilIface) t2, ty, pos, af, gd⟩ (.bool true) := .bin hx rfl (by rfl) (fun w => run_neq_held_nil w t u v hu)
theorem nilNe {P : Program} {n : Nat} {σ : List (Nat × Value)} {I : World → Prop} {dst : Option Tmp} {ty : TypeId} {pos : String} {af : Array Edge} {gd : Option (Nat × Bool)} {t t2 : TypeId} {x : Operand} (hx : evS σ x = some .nilIface) (hu : P.underlying t = some (.interface (P.methodsAt t))) :
    Val P n σ I ⟨dst, .binOp .neq t x (.const .nilIface) t2, ty, pos, af, gd⟩ (.bool false) := .bin hx rfl (by cases x <;> rfl) (fun w => run_neq_nil_nil w t hu)
theorem isNil {P : Program} {n : Nat} {σ : List (Nat × Value)} {I : World → Prop} {dst : Option Tmp} {ty : TypeId} {pos : String} {af : Array Edge} {gd : Option (Nat × Bool)} {t t2 : TypeId} {x : Operand} (hx : evS σ x = some .nilIface) (hu : P.underlying t = some (.interface (P.methodsAt t))) :
    Val P n σ I ⟨dst, .binOp .eql t x (.const .nilIface) t2, ty, pos, af, gd⟩ (.bool true) := .bin hx rfl (by cases x <;> rfl) (fun w => run_eql_nil_nil w t hu)
theorem notNilE {P : Program} {n : Nat} {σ : List (Nat × Value)} {I : World → Prop} {dst : Option Tmp} {ty : TypeId} {pos : String} {af : Array Edge} {gd : Option (Nat × Bool)} {t t2 u : TypeId} {x : Operand} {v : Value} (hx : evS σ x = some (.iface u v)) (hu : P.underlying t = some (.interface (P.methodsAt t))) :
    Val P n σ I ⟨dst, .binOp .eql t x (.const .nilIface) t2, ty, pos, af, gd⟩ (.bool false) := .bin hx rfl (by rfl) (fun w => run_eql_held_nil w t u v hu)
theorem geqN (a m : Nat) : decide ((m : Int) ≤ (a : Int)) = decide (m ≤ a) := by
  rw [Bool.eq_iff_iff]; simp
theorem leqN (a m : Nat) : decide ((a : Int) ≤ (m : Int)) = decide (a ≤ m) := by
  rw [Bool.eq_iff_iff]; simp
theorem wrapU (k : Nat) (h : k < 18446744073709551615) : IntKind.u64.wrap ((k : Int) + 1) = ((k + 1 : Nat) : Int) := by
  rw [IntKind.wrap_u64]; omega
theorem wrapUs {k : Nat} (h1 : 1 ≤ k) (h : k < 18446744073709551616) : IntKind.u64.wrap ((k : Int) - 1) = ((k - 1 : Nat) : Int) := by
  rw [IntKind.wrap_u64]; omega

theorem built_num0 (x : Nat) : Tryd.prog.built 81 [(0, .int .u64 (x : Int))] = some #[.int .u64 (x : Int), .int .u64 ((0 : Nat) : Int)] := by kernel_rfl

theorem built_num (x : Nat) (hx : x < 18446744073709551616) : Tryd.prog.built 81 [(0, .int .u64 (x : Int))] = some (rawC x) := by
  have e : rawC x = #[.int .u64 (x : Int), .int .u64 ((0 : Nat) : Int)] := by
    unfold rawC; rw [Nat.mod_eq_of_lt hx, Nat.div_eq_of_lt hx]
  rw [e]; exact built_num0 x

theorem setU_any {b T m x : Nat} {w : World} (h0 : w.heap[b]? = some (.cells (rawC m) T (0, 0))) (hg : GR w) (hb : 8 ≠ b) (hx : x < pf) (lx : x < 18446744073709551616) :
    Calls Tryd.prog 76 #[.pointer (some ⟨b, 0, none⟩), .int .u64 (x : Int)] w fun e w' => e = .returned .nilIface ∧ Hold (fun k => k == b) w [(b, .cells (fpC x) T (0, 0))] w' := by
  refine calls_H (args := [.pointer (some ⟨b, 0, none⟩), .int .u64 (x : Int)]) (fun k => k == b) [(b, .cells (rawC m) T (0, 0))] Tryd.func76 rfl (m := 11) rfl rfl (hold_one h0) ?_
  refine HC.seq ?_
  refine HC.region ?_
  refine HL.val (Val.assign rfl) (by decide) ?_
  refine HL.nil ?_
  refine HQ.next ?_
  refine HC.seq ?_
  refine HC.region ?_
  refine HL.val (Val.move rfl) (by decide) ?_
  refine HL.val (Val.move rfl) (by decide) ?_
  refine HL.val (Val.build rfl (built_num x lx)) (by decide) ?_
  refine HL.val (Val.nilCheck rfl) (by decide) ?_
  refine HL.put 0 rfl (Put.row rfl rfl (by kernel_rfl) (szR _ _) (rawC_one _)) (ownB b) ?_
  simp only [List.set_cons_zero]
  refine HL.nil ?_
  refine HQ.next ?_
  refine HC.seq ?_
  refine HC.region ?_
  refine HL.val (Val.move rfl) (by decide) ?_
  refine HL.callD en107 rfl (fun w hw => lift_one hw (i := 0) rfl (ownB b) (toMont_any (hw.at (i := 0) rfl) (hg.sn hw.sn (beq_false_of_ne hb)) hb hx)) (by decide) ?_
  simp only [List.set_cons_zero]
  refine HL.nil ?_
  refine HQ.next ?_
  refine HC.seq ?_
  refine HC.region ?_
  refine HL.val (Val.assign rfl) (by decide) ?_
  refine HL.nil ?_
  refine HQ.next ?_
  refine HC.ret ?_
  exact HQ.ret1 rfl rfl (fun w hw => ⟨rfl, hw.pick [0] (by simp)⟩)

theorem of_good {x : Nat} {w : World} (hg : GR w) (hx : x < pf) (lx : x < 18446744073709551616) : Calls Tryd.prog 29 #[.int .u64 (x : Int)] w fun e w' => e = .returned (.tuple #[byV 16 x, .bool true]) ∧ Below w.heap.size w w' := by
  refine calls_H (args := [.int .u64 (x : Int)]) (noD) [] Tryd.func29 rfl (m := 11) rfl rfl (hold_nil _ _) ?_
  refine HC.seq ?_
  refine HC.region ?_
  refine HL.new (New.alloc al30) (by decide) ?_
  intro b1 hb1
  refine HL.val (Val.assign rfl) (by decide) ?_
  refine HL.nil ?_
  refine HQ.next ?_
  refine HC.seq ?_
  refine HC.region ?_
  refine HL.new (New.alloc al81) (by decide) ?_
  intro b2 hb2
  refine HL.nil ?_
  refine HQ.next ?_
  refine HC.seq ?_
  refine HC.seq ?_
  refine HC.region ?_
  refine HL.val (Val.move rfl) (by decide) ?_
  refine HL.callD en76 rfl (fun w hw => lift_one hw (i := 0) rfl (.inl hb2) (setU_any (hw.at (i := 0) rfl) (hg.sn hw.sn rfl) (Nat.ne_of_lt (Nat.lt_of_lt_of_le hg.lt hb2)) hx lx)) (by decide) ?_
  simp only [List.set_cons_zero]
  refine HL.val (nilNe rfl (by kernel_rfl)) (by decide) ?_
  refine HL.nil ?_
  refine HQ.next ?_
  refine HC.no rfl ?_
  refine HC.skip ?_
  refine HQ.next ?_
  refine HC.seq ?_
  refine HC.region ?_
  refine HL.val (Val.load_row rfl (fun w hw => hw.at (i := 0) rfl) Tryd.underlying81 rfl (by kernel_rfl)) (by decide) ?_
  refine HL.val (Val.call en69 (told_p x hx) rfl) (by decide) ?_
  refine HL.put 1 rfl (Put.row rfl rfl (by kernel_rfl) (szB _ _ _) (oneB _ _)) (.inl hb1) ?_
  simp only [List.set_cons_zero, List.set_cons_succ]
  refine HL.val (Val.assign rfl) (by decide) ?_
  refine HL.nil ?_
  refine HQ.next ?_
  refine HC.ret ?_
  exact HQ.retct 1 rfl rfl rfl rfl Tryd.underlying30 rfl (by kernel_rfl) (pure_end rfl)

theorem neq0F {x : Nat} (h : x = 0) : ((x : Int) != 0) = false := by subst h; rfl
theorem neq0T {x : Nat} (h : x ≠ 0) : ((x : Int) != 0) = true := by rw [bne_iff_ne]; omega

theorem getU_any {bx ox x : Nat} {w : World} (hx : FpAt w bx ox x) (px : x < pf) (hz : x / 18446744073709551616 = 0) :
    Calls Tryd.prog 78 #[.pointer (some ⟨bx, ox, none⟩)] w fun e w' => e = .returned (.tuple #[.int .u64 (x : Int), .nilIface]) ∧ Below w.heap.size w w' := by
  refine calls_H (args := [.pointer (some ⟨bx, ox, none⟩)]) (noD) [] Tryd.func78 rfl (m := 13) rfl rfl (hold_nil _ _) ?_
  refine HC.seq ?_
  refine HC.region ?_
  refine HL.val (Val.assign rfl) (by decide) ?_
  refine HL.val (Val.assign rfl) (by decide) ?_
  refine HL.nil ?_
  refine HQ.next ?_
  refine HC.seq ?_
  refine HC.region ?_
  refine HL.val (Val.move rfl) (by decide) ?_
  refine HL.val (Val.calls en108 (fun w hw => fromMont_any (hx.sn hw.sn rfl) px) rfl) (by decide) ?_
  refine HL.new (New.alloc al81) (by decide) ?_
  intro b1 hb1
  refine HL.put 0 rfl (Put.row rfl rfl (by kernel_rfl) (szR _ _) (rawC_one _)) (.inl hb1) ?_
  simp only [List.set_cons_zero]
  refine HL.nil ?_
  refine HQ.next ?_
  refine HC.seq ?_
  refine HC.seq ?_
  refine HC.region ?_
  refine HL.val (Val.ixAddrQ (1) (i := 1) (m := 2) (s := 1) (e := 23) rfl rfl Tryd.underlying81 (by kernel_rfl) (by decide) (by omega)) (by decide) ?_
  refine HL.val (Val.load_cell rfl (fun w hw => hw.at (i := 0) rfl) rfl Tryd.underlying23 rfl) (by decide) ?_
  refine HL.val ((Val.neqI rfl rfl).as (congrArg Value.bool (neq0F hz))) (by decide) ?_
  refine HL.nil ?_
  refine HQ.next ?_
  refine HC.no rfl ?_
  refine HC.skip ?_
  refine HQ.next ?_
  refine HC.seq ?_
  refine HC.region ?_
  refine HL.val (Val.ixAddrQ (0) (i := 0) (m := 2) (s := 1) (e := 23) rfl rfl Tryd.underlying81 (by kernel_rfl) (by decide) (by omega)) (by decide) ?_
  refine HL.val (Val.load_cell rfl (fun w hw => hw.at (i := 0) rfl) rfl Tryd.underlying23 rfl) (by decide) ?_
  refine HL.val (Val.assign rfl) (by decide) ?_
  refine HL.val (Val.assign rfl) (by decide) ?_
  refine HL.nil ?_
  refine HQ.next ?_
  refine HC.ret ?_
  exact HQ.ret2 rfl rfl rfl (pure_end (congrArg (fun z : Nat => Value.tuple #[.int .u64 (z : Int), .nilIface]) (show x % 18446744073709551616 = x by omega)))

theorem number_good {x : Nat} {w : World} (hg : GR w) (px : x < pf) (hz : x / 18446744073709551616 = 0) : Calls Tryd.prog 31 #[byV 16 x] w fun e w' => e = .returned (.tuple #[.int .u64 (x : Int), .bool true]) ∧ Below w.heap.size w w' := by
  refine calls_H (args := [byV 16 x]) (noD) [] Tryd.func31 rfl (m := 22) rfl rfl (hold_nil _ _) ?_
  refine HC.seq ?_
  refine HC.region ?_
  refine HL.new (New.box rfl) (by decide) ?_
  intro b1 hb1
  refine HL.val (Val.assign rfl) (by decide) ?_
  refine HL.val (Val.assign rfl) (by decide) ?_
  refine HL.nil ?_
  refine HQ.next ?_
  refine HC.seq ?_
  refine HC.region ?_
  refine HL.val (Val.load_row rfl (fun w hw => hw.at (i := 0) rfl) Tryd.underlying30 rfl (by kernel_rfl)) (by decide) ?_
  refine HL.val (Val.calls en71 (fun w hw => ofT (hg.sn hw.sn rfl) px) rfl) (by decide) ?_
  refine HL.val (Val.move rfl) (by decide) ?_
  refine HL.val (Val.extract rfl rfl) (by decide) ?_
  refine HL.val (Val.extract rfl rfl) (by decide) ?_
  refine HL.new (New.alloc al81) (by decide) ?_
  intro b2 hb2
  refine HL.put 0 rfl (Put.row rfl rfl (by kernel_rfl) (szR _ _) (rawC_one _)) (.inl hb2) ?_
  simp only [List.set_cons_zero]
  refine HL.val (Val.assign rfl) (by decide) ?_
  refine HL.nil ?_
  refine HQ.next ?_
  refine HC.seq ?_
  refine HC.seq ?_
  refine HC.region ?_
  refine HL.val (Val.move rfl) (by decide) ?_
  refine HL.val (Val.not rfl) (by decide) ?_
  refine HL.nil ?_
  refine HQ.next ?_
  refine HC.no rfl ?_
  refine HC.skip ?_
  refine HQ.next ?_
  refine HC.seq ?_
  refine HC.region ?_
  refine HL.val (Val.calls en78 (fun w hw => getU_any (RawAt.row (hw.at (i := 0) rfl)) px hz) rfl) (by decide) ?_
  refine HL.val (Val.move rfl) (by decide) ?_
  refine HL.val (Val.extract rfl rfl) (by decide) ?_
  refine HL.val (Val.extract rfl rfl) (by decide) ?_
  refine HL.val (Val.assign rfl) (by decide) ?_
  refine HL.val (Val.assign rfl) (by decide) ?_
  refine HL.nil ?_
  refine HQ.next ?_
  refine HC.seq ?_
  refine HC.draw0 4 (by kernel_rfl) (by kernel_rfl) ?_
  simp only [List.take, List.drop]
  refine HV.val (Val.move rfl) (by decide) ?_
  refine HV.val (Val.move rfl) (by decide) ?_
  refine HV.val (isNil rfl (by kernel_rfl)) (by decide) ?_
  refine HV.val (Val.assign rfl) (by decide) ?_
  refine HV.tail0 ?_
  refine HL.val (Val.assign rfl) (by decide) ?_
  refine HL.nil ?_
  refine HQ.next ?_
  refine HC.ret ?_
  exact HQ.ret2 rfl rfl rfl (pure_end rfl)

theorem getU_bad {bx ox x : Nat} {w : World} (hx : FpAt w bx ox x) (px : x < pf) {u : TypeId} {v : Value} (he : w.cell? ⟨2, 0, none⟩ = some (.iface u v)) (hz : x / 18446744073709551616 ≠ 0) :
    Calls Tryd.prog 78 #[.pointer (some ⟨bx, ox, none⟩)] w fun e w' => e = .returned (.tuple #[.int .u64 0, .iface u v]) ∧ Below w.heap.size w w' := by
  refine calls_H (args := [.pointer (some ⟨bx, ox, none⟩)]) (noD) [] Tryd.func78 rfl (m := 13) rfl rfl (hold_nil _ _) ?_
  refine HC.seq ?_
  refine HC.region ?_
  refine HL.val (Val.assign rfl) (by decide) ?_
  refine HL.val (Val.assign rfl) (by decide) ?_
  refine HL.nil ?_
  refine HQ.next ?_
  refine HC.seq ?_
  refine HC.region ?_
  refine HL.val (Val.move rfl) (by decide) ?_
  refine HL.val (Val.calls en108 (fun w hw => fromMont_any (hx.sn hw.sn rfl) px) rfl) (by decide) ?_
  refine HL.new (New.alloc al81) (by decide) ?_
  intro b1 hb1
  refine HL.put 0 rfl (Put.row rfl rfl (by kernel_rfl) (szR _ _) (rawC_one _)) (.inl hb1) ?_
  simp only [List.set_cons_zero]
  refine HL.nil ?_
  refine HQ.next ?_
  refine HC.seq ?_
  refine HC.seq ?_
  refine HC.region ?_
  refine HL.val (Val.ixAddrQ (1) (i := 1) (m := 2) (s := 1) (e := 23) rfl rfl Tryd.underlying81 (by kernel_rfl) (by decide) (by omega)) (by decide) ?_
  refine HL.val (Val.load_cell rfl (fun w hw => hw.at (i := 0) rfl) rfl Tryd.underlying23 rfl) (by decide) ?_
  refine HL.val ((Val.neqI rfl rfl).as (congrArg Value.bool (neq0T hz))) (by decide) ?_
  refine HL.nil ?_
  refine HQ.next ?_
  refine HC.yes rfl ?_
  refine HC.seq ?_
  refine HC.draw0 2 (by kernel_rfl) (by kernel_rfl) ?_
  simp only [List.take, List.drop]
  refine HV.val (Val.load_one rfl (fun w hw => hw.sn.cell he rfl) Tryd.underlying91 rfl) (by decide) ?_
  refine HV.val (Val.assign rfl) (by decide) ?_
  refine HV.tail0 ?_
  refine HL.val (Val.assign rfl) (by decide) ?_
  refine HL.nil ?_
  refine HQ.next ?_
  refine HC.ret ?_
  refine HQ.thenRet ?_
  exact HQ.ret2 rfl rfl rfl (pure_end rfl)

theorem number_bad {x : Nat} {w : World} (hg : GR w) (px : x < pf) (he0 : ERN w) (hz : x / 18446744073709551616 ≠ 0) : Calls Tryd.prog 31 #[byV 16 x] w fun e w' => e = .returned (.tuple #[.int .u64 0, .bool false]) ∧ Below w.heap.size w w' := by
  obtain ⟨u, v, he⟩ := he0
  refine calls_H (args := [byV 16 x]) (noD) [] Tryd.func31 rfl (m := 22) rfl rfl (hold_nil _ _) ?_
  refine HC.seq ?_
  refine HC.region ?_
  refine HL.new (New.box rfl) (by decide) ?_
  intro b1 hb1
  refine HL.val (Val.assign rfl) (by decide) ?_
  refine HL.val (Val.assign rfl) (by decide) ?_
  refine HL.nil ?_
  refine HQ.next ?_
  refine HC.seq ?_
  refine HC.region ?_
  refine HL.val (Val.load_row rfl (fun w hw => hw.at (i := 0) rfl) Tryd.underlying30 rfl (by kernel_rfl)) (by decide) ?_
  refine HL.val (Val.calls en71 (fun w hw => ofT (hg.sn hw.sn rfl) px) rfl) (by decide) ?_
  refine HL.val (Val.move rfl) (by decide) ?_
  refine HL.val (Val.extract rfl rfl) (by decide) ?_
  refine HL.val (Val.extract rfl rfl) (by decide) ?_
  refine HL.new (New.alloc al81) (by decide) ?_
  intro b2 hb2
  refine HL.put 0 rfl (Put.row rfl rfl (by kernel_rfl) (szR _ _) (rawC_one _)) (.inl hb2) ?_
  simp only [List.set_cons_zero]
  refine HL.val (Val.assign rfl) (by decide) ?_
  refine HL.nil ?_
  refine HQ.next ?_
  refine HC.seq ?_
  refine HC.seq ?_
  refine HC.region ?_
  refine HL.val (Val.move rfl) (by decide) ?_
  refine HL.val (Val.not rfl) (by decide) ?_
  refine HL.nil ?_
  refine HQ.next ?_
  refine HC.no rfl ?_
  refine HC.skip ?_
  refine HQ.next ?_
  refine HC.seq ?_
  refine HC.region ?_
  refine HL.val (Val.calls en78 (fun w hw => getU_bad (RawAt.row (hw.at (i := 0) rfl)) px (hw.sn.cell he rfl) hz) rfl) (by decide) ?_
  refine HL.val (Val.move rfl) (by decide) ?_
  refine HL.val (Val.extract rfl rfl) (by decide) ?_
  refine HL.val (Val.extract rfl rfl) (by decide) ?_
  refine HL.val (Val.assign rfl) (by decide) ?_
  refine HL.val (Val.assign rfl) (by decide) ?_
  refine HL.nil ?_
  refine HQ.next ?_
  refine HC.seq ?_
  refine HC.draw0 4 (by kernel_rfl) (by kernel_rfl) ?_
  simp only [List.take, List.drop]
  refine HV.val (Val.move rfl) (by decide) ?_
  refine HV.val (Val.move rfl) (by decide) ?_
  refine HV.val (notNilE rfl (by kernel_rfl)) (by decide) ?_
  refine HV.val (Val.assign rfl) (by decide) ?_
  refine HV.tail0 ?_
  refine HL.val (Val.assign rfl) (by decide) ?_
  refine HL.nil ?_
  refine HQ.next ?_
  refine HC.ret ?_
  exact HQ.ret2 rfl rfl rfl (pure_end rfl)

theorem sq_0 (x : Nat) : x * x % pf = x ^ 2 ^ (0 + 1) % pf := by rw [show (2 : Nat) ^ (0 + 1) = 2 from rfl, Nat.pow_succ, Nat.pow_one]
set_option maxRecDepth 100000 in
theorem sqri_any {b T m bx ox x n : Nat} {w : World} (h0 : w.heap[b]? = some (.cells (rawC m) T (0, 0))) (hx : FpAt w bx ox x) (px : x < pf) (hn : 1 ≤ n) (hn2 : n < 18446744073709551616) :
    Calls Tryd.prog 117 #[.pointer (some ⟨b, 0, none⟩), .pointer (some ⟨bx, ox, none⟩), .int .u64 (n : Int)] w fun e w' => e = .returned (.tuple #[]) ∧ Hold (fun k => k == b) w [(b, .cells (fpC (x ^ 2 ^ n % pf)) T (0, 0))] w' := by
  refine calls_H (args := [.pointer (some ⟨b, 0, none⟩), .pointer (some ⟨bx, ox, none⟩), .int .u64 (n : Int)]) (fun k => k == b) [(b, .cells (rawC m) T (0, 0))] Tryd.func117 rfl (m := 17) rfl rfl (hold_one h0) ?_
  refine HC.seq ?_
  refine HC.region ?_
  refine HL.val (Val.move rfl) (by decide) ?_
  refine HL.val (Val.move rfl) (by decide) ?_
  refine HL.callD en87 rfl (dst_eq (sq_0 x) (fpSqrH (dstf1 0 rfl (ownB b)) (fun w hw => hx.same hw h0 0 rfl) px)) (by decide) ?_
  simp only [List.set_cons_zero]
  refine HL.nil ?_
  refine HQ.next ?_
  refine HC.seq ?_
  refine HC.region ?_
  refine HL.val (Val.move rfl) (by decide) ?_
  refine HL.val ((Val.subI rfl rfl).as (congrArg (Value.int .u64) (wrapUs hn hn2))) (by decide) ?_
  refine HL.val (Val.move rfl) (by decide) ?_
  refine HL.nil ?_
  refine HQ.next ?_
  refine HC.block ?_
  refine HC.loop (ι := {p : Nat // p ≤ n - 1}) (fun p => n - 1 - p.1) (fun p => [(0, .pointer (some ⟨b, 0, none⟩)), (11, .int .u64 (p.1 : Int)), (10, .int .u64 ((n - 1 : Nat) : Int))]) (fun p => [(b, .cells (fpC (x ^ 2 ^ (p.1 + 1) % pf)) T (0, 0))]) ⟨0, Nat.zero_le _⟩ (fun ac wc ha hw => ⟨ha.subS ⟨rfl, rfl, rfl, trivial⟩, hw.pick [0] (by simp)⟩) ?_
  rintro ⟨k, hk⟩
  dsimp only
  refine HC.seq ?_
  refine HC.region ?_
  by_cases hk2 : k < n - 1
  · refine HL.val ((Val.lss rfl rfl).as (congrArg Value.bool ((lssN k (n - 1)).trans (decide_eq_true hk2)))) (by decide) ?_
    refine HL.nil ?_
    refine HQ.next ?_
    refine HC.seq ?_
    refine HC.yes rfl ?_
    refine HC.skip ?_
    refine HQ.next ?_
    refine HC.seq ?_
    refine HC.block ?_
    refine HC.region ?_
    refine HL.val (Val.move rfl) (by decide) ?_
    refine HL.val (Val.move rfl) (by decide) ?_
    refine HL.callD en87 rfl (dst_eq (sq_next x (k + 1)) (fpSqrH (dstf1 0 rfl (ownB b)) (loc1 0 rfl) (Nat.mod_lt _ pf_pos))) (by decide) ?_
    simp only [List.set_cons_zero]
    refine HL.nil ?_
    refine HQ.blockNormal ?_
    refine HQ.next ?_
    refine HC.region ?_
    refine HL.val ((Val.addI rfl rfl).as (congrArg (Value.int .u64) (wrapU k (by omega)))) (by decide) ?_
    refine HL.val (Val.move rfl) (by decide) ?_
    refine HL.nil ?_
    exact ⟨fun ac wc ha hw => ⟨⟨k + 1, by omega⟩, by dsimp only; omega, ha.subS ⟨rfl, rfl, rfl, trivial⟩, hw.pick [0] (by simp)⟩⟩
  · refine HL.val ((Val.lss rfl rfl).as (congrArg Value.bool ((lssN k (n - 1)).trans (decide_eq_false hk2)))) (by decide) ?_
    refine HL.nil ?_
    refine HQ.next ?_
    refine HC.seq ?_
    refine HC.no rfl ?_
    refine HC.exit ?_
    refine HQ.thenExit ?_
    refine HQ.thenExit ?_
    refine HQ.blockExit ?_
    obtain rfl : k = n - 1 := by omega
    have e : n - 1 + 1 = n := by omega
    rw [e]
    exact HQ.end0 rfl (fun w hw => ⟨rfl, hw⟩)
theorem sqriH {D : Nat → Bool} {w0 : World} {η : List (Nat × Obj)} {b T m bx ox x n r : Nat} {N : Int} (i : Nat) (hi : η[i]? = some (b, .cells (rawC m) T (0, 0))) (hD : w0.heap.size ≤ b ∨ D b = true) (hN : N = (n : Int)) (hr : sqX x n = r) (hx : LocF D w0 η bx ox x) (px : x < pf) (hn : 1 ≤ n) (hn2 : n < 18446744073709551616) :
    ∀ w, Hold D w0 η w → Calls Tryd.prog 117 #[.pointer (some ⟨b, 0, none⟩), .pointer (some ⟨bx, ox, none⟩), .int .u64 N] w fun e w' => e = .returned (.tuple #[]) ∧ Hold D w0 (η.set i (b, .cells (fpC r) T (0, 0))) w' := fun w hw => by
  subst hN hr; rw [sqX_eq]; exact lift_one hw hi hD (sqri_any (hw.at hi) (hx w hw) px hn hn2)

set_option maxRecDepth 100000 in
theorem inv_any {b T m bx ox x : Nat} {w0 : World} (h0 : w0.heap[b]? = some (.cells (rawC m) T (0, 0))) (hx : FpAt w0 bx ox x) (px : x < pf) (hbx : bx ≠ b) :
    Calls Tryd.prog 93 #[.pointer (some ⟨b, 0, none⟩), .pointer (some ⟨bx, ox, none⟩)] w0 fun e w' => e = .returned (.tuple #[]) ∧ Hold (fun k => k == b) w0 [(b, .cells (fpC (pwX x invE)) T (0, 0))] w' := by
  have hx1 : ∀ w, Sn (fun k => k == b) w0 w → FpAt w bx ox (pwX x 1) := fun w hs => by
    rw [pwX_one px]
    exact RawAt.sn hx hs (by simpa using hbx)
  refine calls_H (args := [.pointer (some ⟨b, 0, none⟩), .pointer (some ⟨bx, ox, none⟩)]) (fun k => k == b) [(b, .cells (rawC m) T (0, 0))] Tryd.func93 rfl (m := 33) rfl rfl (hold_one h0) ?_
  refine HC.seq ?_
  refine HC.region ?_
  refine HL.new (New.alloc al81) (by decide) ?_
  intro b1 hb1
  refine HL.new (New.alloc al81) (by decide) ?_
  intro b2 hb2
  refine HL.new (New.alloc al81) (by decide) ?_
  intro b3 hb3
  refine HL.new (New.alloc al81) (by decide) ?_
  intro b4 hb4
  refine HL.nil ?_
  refine HQ.next ?_
  refine HC.seq ?_
  refine HC.region ?_
  refine HL.val (Val.move rfl) (by decide) ?_
  refine HL.callD en87 rfl (dst_eq (pwX_mul x (a := 1) (b := 1) (c := 2) rfl) (fpSqrH (dstf1 3 rfl (.inl hb1)) (fun w hw => hx1 w hw.sn) (pwX_lt _ _))) (by decide) ?_
  simp only [List.set_cons_zero, List.set_cons_succ]
  refine HL.nil ?_
  refine HQ.next ?_
  refine HC.seq ?_
  refine HC.region ?_
  refine HL.val (Val.move rfl) (by decide) ?_
  refine HL.callD en80 rfl (dst_eq (pwX_mul x (a := 1) (b := 2) (c := 3) rfl) (fpMulH (dstf1 3 rfl (.inl hb1)) (fun w hw => hx1 w hw.sn) (pwX_lt _ _) (loc1 3 rfl) (pwX_lt _ _))) (by decide) ?_
  simp only [List.set_cons_zero, List.set_cons_succ]
  refine HL.nil ?_
  refine HQ.next ?_
  refine HC.seq ?_
  refine HC.region ?_
  refine HL.callD en87 rfl (dst_eq (pwX_mul x (a := 3) (b := 3) (c := 6) rfl) (fpSqrH (dstf1 3 rfl (.inl hb1)) (loc1 3 rfl) (pwX_lt _ _))) (by decide) ?_
  simp only [List.set_cons_zero, List.set_cons_succ]
  refine HL.nil ?_
  refine HQ.next ?_
  refine HC.seq ?_
  refine HC.region ?_
  refine HL.val (Val.move rfl) (by decide) ?_
  refine HL.callD en80 rfl (dst_eq (pwX_mul x (a := 1) (b := 6) (c := 7) rfl) (fpMulH (dstf1 2 rfl (.inl hb2)) (fun w hw => hx1 w hw.sn) (pwX_lt _ _) (loc1 3 rfl) (pwX_lt _ _))) (by decide) ?_
  simp only [List.set_cons_zero, List.set_cons_succ]
  refine HL.nil ?_
  refine HQ.next ?_
  refine HC.seq ?_
  refine HC.region ?_
  refine HL.callD en87 rfl (dst_eq (pwX_mul x (a := 7) (b := 7) (c := 14) rfl) (fpSqrH (dstf1 3 rfl (.inl hb1)) (loc1 2 rfl) (pwX_lt _ _))) (by decide) ?_
  simp only [List.set_cons_zero, List.set_cons_succ]
  refine HL.nil ?_
  refine HQ.next ?_
  refine HC.seq ?_
  refine HC.region ?_
  refine HL.callD en117 rfl (sqriH 1 rfl (.inl hb3) (n := 3) rfl (pwX_sqn x (a := 14) (b := 3) (c := 112) (by decide)) (loc1 3 rfl) (pwX_lt _ _) (by decide) (by decide)) (by decide) ?_
  simp only [List.set_cons_zero, List.set_cons_succ]
  refine HL.nil ?_
  refine HQ.next ?_
  refine HC.seq ?_
  refine HC.region ?_
  refine HL.callD en80 rfl (dst_eq (pwX_mul x (a := 14) (b := 112) (c := 126) rfl) (fpMulH (dstf1 3 rfl (.inl hb1)) (loc1 3 rfl) (pwX_lt _ _) (loc1 1 rfl) (pwX_lt _ _))) (by decide) ?_
  simp only [List.set_cons_zero, List.set_cons_succ]
  refine HL.nil ?_
  refine HQ.next ?_
  refine HC.seq ?_
  refine HC.region ?_
  refine HL.val (Val.move rfl) (by decide) ?_
  refine HL.callD en80 rfl (dst_eq (pwX_mul x (a := 1) (b := 126) (c := 127) rfl) (fpMulH (dstf1 3 rfl (.inl hb1)) (fun w hw => hx1 w hw.sn) (pwX_lt _ _) (loc1 3 rfl) (pwX_lt _ _))) (by decide) ?_
  simp only [List.set_cons_zero, List.set_cons_succ]
  refine HL.nil ?_
  refine HQ.next ?_
  refine HC.seq ?_
  refine HC.region ?_
  refine HL.callD en117 rfl (sqriH 1 rfl (.inl hb3) (n := 3) rfl (pwX_sqn x (a := 127) (b := 3) (c := 1016) (by decide)) (loc1 3 rfl) (pwX_lt _ _) (by decide) (by decide)) (by decide) ?_
  simp only [List.set_cons_zero, List.set_cons_succ]
  refine HL.nil ?_
  refine HQ.next ?_
  refine HC.seq ?_
  refine HC.region ?_
  refine HL.callD en117 rfl (sqriH 0 rfl (.inl hb4) (n := 7) rfl (pwX_sqn x (a := 1016) (b := 7) (c := 130048) (by decide)) (loc1 1 rfl) (pwX_lt _ _) (by decide) (by decide)) (by decide) ?_
  simp only [List.set_cons_zero]
  refine HL.nil ?_
  refine HQ.next ?_
  refine HC.seq ?_
  refine HC.region ?_
  refine HL.callD en80 rfl (dst_eq (pwX_mul x (a := 1016) (b := 130048) (c := 131064) rfl) (fpMulH (dstf1 1 rfl (.inl hb3)) (loc1 1 rfl) (pwX_lt _ _) (loc1 0 rfl) (pwX_lt _ _))) (by decide) ?_
  simp only [List.set_cons_zero, List.set_cons_succ]
  refine HL.nil ?_
  refine HQ.next ?_
  refine HC.seq ?_
  refine HC.region ?_
  refine HL.callD en117 rfl (sqriH 0 rfl (.inl hb4) (n := 14) rfl (pwX_sqn x (a := 131064) (b := 14) (c := 2147352576) (by decide)) (loc1 1 rfl) (pwX_lt _ _) (by decide) (by decide)) (by decide) ?_
  simp only [List.set_cons_zero]
  refine HL.nil ?_
  refine HQ.next ?_
  refine HC.seq ?_
  refine HC.region ?_
  refine HL.callD en80 rfl (dst_eq (pwX_mul x (a := 131064) (b := 2147352576) (c := 2147483640) rfl) (fpMulH (dstf1 1 rfl (.inl hb3)) (loc1 1 rfl) (pwX_lt _ _) (loc1 0 rfl) (pwX_lt _ _))) (by decide) ?_
  simp only [List.set_cons_zero, List.set_cons_succ]
  refine HL.nil ?_
  refine HQ.next ?_
  refine HC.seq ?_
  refine HC.region ?_
  refine HL.callD en117 rfl (sqriH 0 rfl (.inl hb4) (n := 28) rfl (pwX_sqn x (a := 2147483640) (b := 28) (c := 576460750155939840) (by decide)) (loc1 1 rfl) (pwX_lt _ _) (by decide) (by decide)) (by decide) ?_
  simp only [List.set_cons_zero]
  refine HL.nil ?_
  refine HQ.next ?_
  refine HC.seq ?_
  refine HC.region ?_
  refine HL.callD en80 rfl (dst_eq (pwX_mul x (a := 2147483640) (b := 576460750155939840) (c := 576460752303423480) rfl) (fpMulH (dstf1 1 rfl (.inl hb3)) (loc1 1 rfl) (pwX_lt _ _) (loc1 0 rfl) (pwX_lt _ _))) (by decide) ?_
  simp only [List.set_cons_zero, List.set_cons_succ]
  refine HL.nil ?_
  refine HQ.next ?_
  refine HC.seq ?_
  refine HC.region ?_
  refine HL.callD en80 rfl (dst_eq (pwX_mul x (a := 7) (b := 576460752303423480) (c := 576460752303423487) rfl) (fpMulH (dstf1 2 rfl (.inl hb2)) (loc1 2 rfl) (pwX_lt _ _) (loc1 1 rfl) (pwX_lt _ _))) (by decide) ?_
  simp only [List.set_cons_zero, List.set_cons_succ]
  refine HL.nil ?_
  refine HQ.next ?_
  refine HC.seq ?_
  refine HC.region ?_
  refine HL.callD en117 rfl (sqriH 1 rfl (.inl hb3) (n := 62) rfl (pwX_sqn x (a := 576460752303423487) (b := 62) (c := 2658455991569831741195928102133301248) (by decide)) (loc1 2 rfl) (pwX_lt _ _) (by decide) (by decide)) (by decide) ?_
  simp only [List.set_cons_zero, List.set_cons_succ]
  refine HL.nil ?_
  refine HQ.next ?_
  refine HC.seq ?_
  refine HC.region ?_
  refine HL.callD en80 rfl (dst_eq (pwX_mul x (a := 576460752303423487) (b := 2658455991569831741195928102133301248) (c := 2658455991569831741772388854436724735) rfl) (fpMulH (dstf1 2 rfl (.inl hb2)) (loc1 2 rfl) (pwX_lt _ _) (loc1 1 rfl) (pwX_lt _ _))) (by decide) ?_
  simp only [List.set_cons_zero, List.set_cons_succ]
  refine HL.nil ?_
  refine HQ.next ?_
  refine HC.seq ?_
  refine HC.region ?_
  refine HL.callD en117 rfl (sqriH 2 rfl (.inl hb2) (n := 7) rfl (pwX_sqn x (a := 2658455991569831741772388854436724735) (b := 7) (c := 340282366920938462946865773367900766080) (by decide)) (loc1 2 rfl) (pwX_lt _ _) (by decide) (by decide)) (by decide) ?_
  simp only [List.set_cons_zero, List.set_cons_succ]
  refine HL.nil ?_
  refine HQ.next ?_
  refine HC.region ?_
  refine HL.val (Val.move rfl) (by decide) ?_
  refine HL.callD en80 rfl (dst_eq (pwX_mul x (a := 127) (b := 340282366920938462946865773367900766080) (c := 340282366920938462946865773367900766207) rfl) (fpMulH (dstf1 4 rfl (ownB b)) (loc1 3 rfl) (pwX_lt _ _) (loc1 2 rfl) (pwX_lt _ _))) (by decide) ?_
  simp only [List.set_cons_zero, List.set_cons_succ]
  refine HL.nil ?_
  exact HQ.end0 rfl (fun w hw => ⟨rfl, hw.pick [4] (by simp)⟩)

set_option maxRecDepth 100000 in
theorem inv_self {b T x : Nat} {w0 : World} (h1 : w0.heap[b]? = some (.cells (fpC x) T (0, 0))) (px : x < pf) :
    Calls Tryd.prog 93 #[.pointer (some ⟨b, 0, none⟩), .pointer (some ⟨b, 0, none⟩)] w0 fun e w' => e = .returned (.tuple #[]) ∧ Hold (fun k => k == b) w0 [(b, .cells (fpC (pwX x invE)) T (0, 0))] w' := by
  have h0 : w0.heap[b]? = some (.cells (fpC (pwX x 1)) T (0, 0)) := by rw [pwX_one px]; exact h1
  refine calls_H (args := [.pointer (some ⟨b, 0, none⟩), .pointer (some ⟨b, 0, none⟩)]) (fun k => k == b) [(b, .cells (fpC (pwX x 1)) T (0, 0))] Tryd.func93 rfl (m := 33) rfl rfl (hold_one h0) ?_
  refine HC.seq ?_
  refine HC.region ?_
  refine HL.new (New.alloc al81) (by decide) ?_
  intro b1 hb1
  refine HL.new (New.alloc al81) (by decide) ?_
  intro b2 hb2
  refine HL.new (New.alloc al81) (by decide) ?_
  intro b3 hb3
  refine HL.new (New.alloc al81) (by decide) ?_
  intro b4 hb4
  refine HL.nil ?_
  refine HQ.next ?_
  refine HC.seq ?_
  refine HC.region ?_
  refine HL.val (Val.move rfl) (by decide) ?_
  refine HL.callD en87 rfl (dst_eq (pwX_mul x (a := 1) (b := 1) (c := 2) rfl) (fpSqrH (dstf1 3 rfl (.inl hb1)) (loc1 4 rfl) (pwX_lt _ _))) (by decide) ?_
  simp only [List.set_cons_zero, List.set_cons_succ]
  refine HL.nil ?_
  refine HQ.next ?_
  refine HC.seq ?_
  refine HC.region ?_
  refine HL.val (Val.move rfl) (by decide) ?_
  refine HL.callD en80 rfl (dst_eq (pwX_mul x (a := 1) (b := 2) (c := 3) rfl) (fpMulH (dstf1 3 rfl (.inl hb1)) (loc1 4 rfl) (pwX_lt _ _) (loc1 3 rfl) (pwX_lt _ _))) (by decide) ?_
  simp only [List.set_cons_zero, List.set_cons_succ]
  refine HL.nil ?_
  refine HQ.next ?_
  refine HC.seq ?_
  refine HC.region ?_
  refine HL.callD en87 rfl (dst_eq (pwX_mul x (a := 3) (b := 3) (c := 6) rfl) (fpSqrH (dstf1 3 rfl (.inl hb1)) (loc1 3 rfl) (pwX_lt _ _))) (by decide) ?_
  simp only [List.set_cons_zero, List.set_cons_succ]
  refine HL.nil ?_
  refine HQ.next ?_
  refine HC.seq ?_
  refine HC.region ?_
  refine HL.val (Val.move rfl) (by decide) ?_
  refine HL.callD en80 rfl (dst_eq (pwX_mul x (a := 1) (b := 6) (c := 7) rfl) (fpMulH (dstf1 2 rfl (.inl hb2)) (loc1 4 rfl) (pwX_lt _ _) (loc1 3 rfl) (pwX_lt _ _))) (by decide) ?_
  simp only [List.set_cons_zero, List.set_cons_succ]
  refine HL.nil ?_
  refine HQ.next ?_
  refine HC.seq ?_
  refine HC.region ?_
  refine HL.callD en87 rfl (dst_eq (pwX_mul x (a := 7) (b := 7) (c := 14) rfl) (fpSqrH (dstf1 3 rfl (.inl hb1)) (loc1 2 rfl) (pwX_lt _ _))) (by decide) ?_
  simp only [List.set_cons_zero, List.set_cons_succ]
  refine HL.nil ?_
  refine HQ.next ?_
  refine HC.seq ?_
  refine HC.region ?_
  refine HL.callD en117 rfl (sqriH 1 rfl (.inl hb3) (n := 3) rfl (pwX_sqn x (a := 14) (b := 3) (c := 112) (by decide)) (loc1 3 rfl) (pwX_lt _ _) (by decide) (by decide)) (by decide) ?_
  simp only [List.set_cons_zero, List.set_cons_succ]
  refine HL.nil ?_
  refine HQ.next ?_
  refine HC.seq ?_
  refine HC.region ?_
  refine HL.callD en80 rfl (dst_eq (pwX_mul x (a := 14) (b := 112) (c := 126) rfl) (fpMulH (dstf1 3 rfl (.inl hb1)) (loc1 3 rfl) (pwX_lt _ _) (loc1 1 rfl) (pwX_lt _ _))) (by decide) ?_
  simp only [List.set_cons_zero, List.set_cons_succ]
  refine HL.nil ?_
  refine HQ.next ?_
  refine HC.seq ?_
  refine HC.region ?_
  refine HL.val (Val.move rfl) (by decide) ?_
  refine HL.callD en80 rfl (dst_eq (pwX_mul x (a := 1) (b := 126) (c := 127) rfl) (fpMulH (dstf1 3 rfl (.inl hb1)) (loc1 4 rfl) (pwX_lt _ _) (loc1 3 rfl) (pwX_lt _ _))) (by decide) ?_
  simp only [List.set_cons_zero, List.set_cons_succ]
  refine HL.nil ?_
  refine HQ.next ?_
  refine HC.seq ?_
  refine HC.region ?_
  refine HL.callD en117 rfl (sqriH 1 rfl (.inl hb3) (n := 3) rfl (pwX_sqn x (a := 127) (b := 3) (c := 1016) (by decide)) (loc1 3 rfl) (pwX_lt _ _) (by decide) (by decide)) (by decide) ?_
  simp only [List.set_cons_zero, List.set_cons_succ]
  refine HL.nil ?_
  refine HQ.next ?_
  refine HC.seq ?_
  refine HC.region ?_
  refine HL.callD en117 rfl (sqriH 0 rfl (.inl hb4) (n := 7) rfl (pwX_sqn x (a := 1016) (b := 7) (c := 130048) (by decide)) (loc1 1 rfl) (pwX_lt _ _) (by decide) (by decide)) (by decide) ?_
  simp only [List.set_cons_zero]
  refine HL.nil ?_
  refine HQ.next ?_
  refine HC.seq ?_
  refine HC.region ?_
  refine HL.callD en80 rfl (dst_eq (pwX_mul x (a := 1016) (b := 130048) (c := 131064) rfl) (fpMulH (dstf1 1 rfl (.inl hb3)) (loc1 1 rfl) (pwX_lt _ _) (loc1 0 rfl) (pwX_lt _ _))) (by decide) ?_
  simp only [List.set_cons_zero, List.set_cons_succ]
  refine HL.nil ?_
  refine HQ.next ?_
  refine HC.seq ?_
  refine HC.region ?_
  refine HL.callD en117 rfl (sqriH 0 rfl (.inl hb4) (n := 14) rfl (pwX_sqn x (a := 131064) (b := 14) (c := 2147352576) (by decide)) (loc1 1 rfl) (pwX_lt _ _) (by decide) (by decide)) (by decide) ?_
  simp only [List.set_cons_zero]
  refine HL.nil ?_
  refine HQ.next ?_
  refine HC.seq ?_
  refine HC.region ?_
  refine HL.callD en80 rfl (dst_eq (pwX_mul x (a := 131064) (b := 2147352576) (c := 2147483640) rfl) (fpMulH (dstf1 1 rfl (.inl hb3)) (loc1 1 rfl) (pwX_lt _ _) (loc1 0 rfl) (pwX_lt _ _))) (by decide) ?_
  simp only [List.set_cons_zero, List.set_cons_succ]
  refine HL.nil ?_
  refine HQ.next ?_
  refine HC.seq ?_
  refine HC.region ?_
  refine HL.callD en117 rfl (sqriH 0 rfl (.inl hb4) (n := 28) rfl (pwX_sqn x (a := 2147483640) (b := 28) (c := 576460750155939840) (by decide)) (loc1 1 rfl) (pwX_lt _ _) (by decide) (by decide)) (by decide) ?_
  simp only [List.set_cons_zero]
  refine HL.nil ?_
  refine HQ.next ?_
  refine HC.seq ?_
  refine HC.region ?_
  refine HL.callD en80 rfl (dst_eq (pwX_mul x (a := 2147483640) (b := 576460750155939840) (c := 576460752303423480) rfl) (fpMulH (dstf1 1 rfl (.inl hb3)) (loc1 1 rfl) (pwX_lt _ _) (loc1 0 rfl) (pwX_lt _ _))) (by decide) ?_
  simp only [List.set_cons_zero, List.set_cons_succ]
  refine HL.nil ?_
  refine HQ.next ?_
  refine HC.seq ?_
  refine HC.region ?_
  refine HL.callD en80 rfl (dst_eq (pwX_mul x (a := 7) (b := 576460752303423480) (c := 576460752303423487) rfl) (fpMulH (dstf1 2 rfl (.inl hb2)) (loc1 2 rfl) (pwX_lt _ _) (loc1 1 rfl) (pwX_lt _ _))) (by decide) ?_
  simp only [List.set_cons_zero, List.set_cons_succ]
  refine HL.nil ?_
  refine HQ.next ?_
  refine HC.seq ?_
  refine HC.region ?_
  refine HL.callD en117 rfl (sqriH 1 rfl (.inl hb3) (n := 62) rfl (pwX_sqn x (a := 576460752303423487) (b := 62) (c := 2658455991569831741195928102133301248) (by decide)) (loc1 2 rfl) (pwX_lt _ _) (by decide) (by decide)) (by decide) ?_
  simp only [List.set_cons_zero, List.set_cons_succ]
  refine HL.nil ?_
  refine HQ.next ?_
  refine HC.seq ?_
  refine HC.region ?_
  refine HL.callD en80 rfl (dst_eq (pwX_mul x (a := 576460752303423487) (b := 2658455991569831741195928102133301248) (c := 2658455991569831741772388854436724735) rfl) (fpMulH (dstf1 2 rfl (.inl hb2)) (loc1 2 rfl) (pwX_lt _ _) (loc1 1 rfl) (pwX_lt _ _))) (by decide) ?_
  simp only [List.set_cons_zero, List.set_cons_succ]
  refine HL.nil ?_
  refine HQ.next ?_
  refine HC.seq ?_
  refine HC.region ?_
  refine HL.callD en117 rfl (sqriH 2 rfl (.inl hb2) (n := 7) rfl (pwX_sqn x (a := 2658455991569831741772388854436724735) (b := 7) (c := 340282366920938462946865773367900766080) (by decide)) (loc1 2 rfl) (pwX_lt _ _) (by decide) (by decide)) (by decide) ?_
  simp only [List.set_cons_zero, List.set_cons_succ]
  refine HL.nil ?_
  refine HQ.next ?_
  refine HC.region ?_
  refine HL.val (Val.move rfl) (by decide) ?_
  refine HL.callD en80 rfl (dst_eq (pwX_mul x (a := 127) (b := 340282366920938462946865773367900766080) (c := 340282366920938462946865773367900766207) rfl) (fpMulH (dstf1 4 rfl (ownB b)) (loc1 3 rfl) (pwX_lt _ _) (loc1 2 rfl) (pwX_lt _ _))) (by decide) ?_
  simp only [List.set_cons_zero, List.set_cons_succ]
  refine HL.nil ?_
  exact HQ.end0 rfl (fun w hw => ⟨rfl, hw.pick [4] (by simp)⟩)

theorem inv_mul {x : Nat} (px : x < pf) (h : x ≠ 0) : x * pwX x invE % pf = 1 := by
  rw [pwX_eq]
  have hp : Num.Pr pf := Num.pr_340282366920938462946865773367900766209
  have h1 := Num.fermat hp (a := x) (by rw [Nat.mod_eq_of_lt px]; exact h)
  have e : pf - 1 = invE + 1 := by decide +kernel
  rw [e, Nat.pow_succ, Nat.mul_comm] at h1
  rw [Nat.mul_mod_mod]; exact h1

set_option maxRecDepth 100000 in
theorem inv_good {x : Nat} {w : World} (hg : GR w) (px : x < pf) : Calls Tryd.prog 54 #[byV 16 x] w fun e w' => e = .returned (.tuple #[byV 16 (pwX x invE), .bool true]) ∧ Below w.heap.size w w' := by
  refine calls_H (args := [byV 16 x]) (noD) [] Tryd.func54 rfl (m := 18) rfl rfl (hold_nil _ _) ?_
  refine HC.seq ?_
  refine HC.region ?_
  refine HL.new (New.box rfl) (by decide) ?_
  intro b1 hb1
  refine HL.new (New.alloc al30) (by decide) ?_
  intro b2 hb2
  refine HL.val (Val.assign rfl) (by decide) ?_
  refine HL.nil ?_
  refine HQ.next ?_
  refine HC.seq ?_
  refine HC.region ?_
  refine HL.val (Val.load_row rfl (fun w hw => hw.at (i := 1) rfl) Tryd.underlying30 rfl (by kernel_rfl)) (by decide) ?_
  refine HL.val (Val.calls en71 (fun w hw => ofT (hg.sn hw.sn rfl) px) rfl) (by decide) ?_
  refine HL.val (Val.move rfl) (by decide) ?_
  refine HL.val (Val.extract rfl rfl) (by decide) ?_
  refine HL.val (Val.extract rfl rfl) (by decide) ?_
  refine HL.new (New.alloc al81) (by decide) ?_
  intro b3 hb3
  refine HL.put 0 rfl (Put.row rfl rfl (by kernel_rfl) (szR _ _) (rawC_one _)) (.inl hb3) ?_
  simp only [List.set_cons_zero]
  refine HL.val (Val.assign rfl) (by decide) ?_
  refine HL.nil ?_
  refine HQ.next ?_
  refine HC.seq ?_
  refine HC.seq ?_
  refine HC.region ?_
  refine HL.val (Val.move rfl) (by decide) ?_
  refine HL.val (Val.not rfl) (by decide) ?_
  refine HL.nil ?_
  refine HQ.next ?_
  refine HC.no rfl ?_
  refine HC.skip ?_
  refine HQ.next ?_
  refine HC.seq ?_
  refine HC.region ?_
  refine HL.new (New.alloc al81) (by decide) ?_
  intro b4 hb4
  refine HL.nil ?_
  refine HQ.next ?_
  refine HC.seq ?_
  refine HC.region ?_
  refine HL.callD en93 rfl (fun w hw => lift_one hw (i := 0) rfl (.inl hb4) (inv_any (hw.at (i := 0) rfl) (RawAt.row (hw.at (i := 1) rfl)) px (nd_ne hw (i := 1) (j := 0) rfl rfl (by decide)))) (by decide) ?_
  simp only [List.set_cons_zero]
  refine HL.nil ?_
  refine HQ.next ?_
  refine HC.seq ?_
  refine HC.region ?_
  refine HL.val (Val.load_row rfl (fun w hw => hw.at (i := 0) rfl) Tryd.underlying81 rfl (by kernel_rfl)) (by decide) ?_
  refine HL.val (Val.call en69 (told_p ((pwX x invE)) (pwX_lt _ _)) rfl) (by decide) ?_
  refine HL.put 2 rfl (Put.row rfl rfl (by kernel_rfl) (szB _ _ _) (oneB _ _)) (.inl hb2) ?_
  simp only [List.set_cons_zero, List.set_cons_succ]
  refine HL.val (Val.assign rfl) (by decide) ?_
  refine HL.nil ?_
  refine HQ.next ?_
  refine HC.ret ?_
  exact HQ.retct 2 rfl rfl rfl rfl Tryd.underlying30 rfl (by kernel_rfl) (pure_end rfl)

theorem one_good {w : World} (ht : RT w) : Calls Tryd.prog 48 #[] w fun e w' => e = .returned (byV 16 (rt 0)) ∧ Below w.heap.size w w' := by
  refine calls_H (args := []) (noD) [] Tryd.func48 rfl (m := 5) rfl rfl (hold_nil _ _) ?_
  refine HC.seq ?_
  refine HC.region ?_
  refine HL.new (New.alloc al30) (by decide) ?_
  intro b1 hb1
  refine HL.nil ?_
  refine HQ.next ?_
  refine HC.seq ?_
  refine HC.region ?_
  refine HL.new (New.alloc al81) (by decide) ?_
  intro b2 hb2
  refine HL.nil ?_
  refine HQ.next ?_
  refine HC.seq ?_
  refine HC.region ?_
  refine HL.callD en89 rfl (fun w hw => lift_one hw (i := 0) rfl (.inl hb2) (setOne_any (ht.sn hw.sn rfl) (hw.at (i := 0) rfl) (Nat.ne_of_lt (Nat.lt_of_lt_of_le ht.lt hb2)) (Nat.le_refl _))) (by decide) ?_
  simp only [List.set_cons_zero]
  refine HL.nil ?_
  refine HQ.next ?_
  refine HC.seq ?_
  refine HC.region ?_
  refine HL.val (Val.load_row rfl (fun w hw => hw.at (i := 0) rfl) Tryd.underlying81 rfl (by kernel_rfl)) (by decide) ?_
  refine HL.val (Val.call en69 (told_p ((rt 0)) (rt_lt (by decide))) rfl) (by decide) ?_
  refine HL.put 1 rfl (Put.row rfl rfl (by kernel_rfl) (szB _ _ _) (oneB _ _)) (.inl hb1) ?_
  simp only [List.set_cons_zero, List.set_cons_succ]
  refine HL.nil ?_
  refine HQ.next ?_
  refine HC.ret ?_
  exact HQ.retc 1 rfl rfl rfl Tryd.underlying30 rfl (by kernel_rfl) (pure_end rfl)

theorem ord_p : Pure Tryd.prog 67 #[.agg (rawC 0)] (.int .u64 66) := by
  intro w
  refine calls_H (args := [.agg (rawC 0)]) (noD) [] Tryd.func67 rfl (m := 3) rfl rfl (hold_nil _ _) ?_
  refine HC.seq ?_
  refine HC.region ?_
  refine HL.new (New.box rfl) (by decide) ?_
  intro b1 hb1
  refine HL.val (Val.assign rfl) (by decide) ?_
  refine HL.nil ?_
  refine HQ.next ?_
  refine HC.seq ?_
  refine HC.region ?_
  refine HL.val (Val.assign rfl) (by decide) ?_
  refine HL.nil ?_
  refine HQ.next ?_
  refine HC.ret ?_
  exact HQ.ret1 rfl rfl (pure_end rfl)

theorem root_good {i : Nat} {w : World} (ht : RT w) (hi : i ≤ 66) : Calls Tryd.prog 23 #[.int .u64 (i : Int)] w fun e w' => e = .returned (byV 16 (rt i)) ∧ Below w.heap.size w w' := by
  refine calls_H (args := [.int .u64 (i : Int)]) (noD) [] Tryd.func23 rfl (m := 13) rfl rfl (hold_nil _ _) ?_
  refine HC.seq ?_
  refine HC.region ?_
  refine HL.new (New.alloc al30) (by decide) ?_
  intro b1 hb1
  refine HL.nil ?_
  refine HQ.next ?_
  refine HC.seq ?_
  refine HC.region ?_
  refine HL.new (New.alloc al81) (by decide) ?_
  intro b2 hb2
  refine HL.nil ?_
  refine HQ.next ?_
  refine HC.seq ?_
  refine HC.seq ?_
  refine HC.region ?_
  refine HL.val (Val.move rfl) (by decide) ?_
  refine HL.val (Val.load_row rfl (fun w hw => hw.at (i := 0) rfl) Tryd.underlying81 rfl (by kernel_rfl)) (by decide) ?_
  refine HL.val (Val.call en67 (ord_p) rfl) (by decide) ?_
  refine HL.val ((Val.gtr rfl rfl).as (congrArg Value.bool ((gtrN 66 i).trans (decide_eq_false (by omega))))) (by decide) ?_
  refine HL.nil ?_
  refine HQ.next ?_
  refine HC.no rfl ?_
  refine HC.skip ?_
  refine HQ.next ?_
  refine HC.seq ?_
  refine HC.region ?_
  refine HL.val (Val.move rfl) (by decide) ?_
  refine HL.callD en68 rfl (fun w hw => lift_one hw (i := 0) rfl (.inl hb2) (setRoot_any (ht.sn hw.sn rfl) (hw.at (i := 0) rfl) (Nat.ne_of_lt (Nat.lt_of_lt_of_le ht.lt hb2)) (Nat.le_refl _) (by omega))) (by decide) ?_
  simp only [List.set_cons_zero]
  refine HL.nil ?_
  refine HQ.next ?_
  refine HC.seq ?_
  refine HC.region ?_
  refine HL.val (Val.load_row rfl (fun w hw => hw.at (i := 0) rfl) Tryd.underlying81 rfl (by kernel_rfl)) (by decide) ?_
  refine HL.val (Val.call en69 (told_p ((rt i)) (rt_lt (by omega))) rfl) (by decide) ?_
  refine HL.put 1 rfl (Put.row rfl rfl (by kernel_rfl) (szB _ _ _) (oneB _ _)) (.inl hb1) ?_
  simp only [List.set_cons_zero, List.set_cons_succ]
  refine HL.nil ?_
  refine HQ.next ?_
  refine HC.ret ?_
  exact HQ.retc 1 rfl rfl rfl Tryd.underlying30 rfl (by kernel_rfl) (pure_end rfl)

set_option maxRecDepth 100000 in
theorem rootOrder_good : Pure Tryd.prog 28 #[] (.int .i64 66) := by
  intro w
  refine calls_H (args := []) (noD) [] Tryd.func28 rfl (m := 5) rfl rfl (hold_nil _ _) ?_
  refine HC.seq ?_
  refine HC.region ?_
  refine HL.val (Val.assign rfl) (by decide) ?_
  refine HL.nil ?_
  refine HQ.next ?_
  refine HC.seq ?_
  refine HC.region ?_
  refine HL.new (New.alloc al81) (by decide) ?_
  intro b1 hb1
  refine HL.nil ?_
  refine HQ.next ?_
  refine HC.seq ?_
  refine HC.region ?_
  refine HL.val (Val.load_row rfl (fun w hw => hw.at (i := 0) rfl) Tryd.underlying81 rfl (by kernel_rfl)) (by decide) ?_
  refine HL.val (Val.call en67 (ord_p) rfl) (by decide) ?_
  refine HL.val ((Val.convI rfl rfl Tryd.underlying3).as (v := .int .i64 66) rfl) (by decide) ?_
  refine HL.val (Val.assign rfl) (by decide) ?_
  refine HL.nil ?_
  refine HQ.next ?_
  refine HC.ret ?_
  exact HQ.ret1 rfl rfl (pure_end rfl)

theorem size_p : Pure Tryd.prog 75 #[.agg (rawC 0)] (.int .u64 16) := by
  intro w
  refine calls_H (args := [.agg (rawC 0)]) (noD) [] Tryd.func75 rfl (m := 3) rfl rfl (hold_nil _ _) ?_
  refine HC.seq ?_
  refine HC.region ?_
  refine HL.new (New.box rfl) (by decide) ?_
  intro b1 hb1
  refine HL.val (Val.assign rfl) (by decide) ?_
  refine HL.nil ?_
  refine HQ.next ?_
  refine HC.seq ?_
  refine HC.region ?_
  refine HL.val (Val.assign rfl) (by decide) ?_
  refine HL.nil ?_
  refine HQ.next ?_
  refine HC.ret ?_
  exact HQ.ret1 rfl rfl (pure_end rfl)

set_option maxRecDepth 100000 in
theorem size_good : Pure Tryd.prog 27 #[] (.int .i64 16) := by
  intro w
  refine calls_H (args := []) (noD) [] Tryd.func27 rfl (m := 5) rfl rfl (hold_nil _ _) ?_
  refine HC.seq ?_
  refine HC.region ?_
  refine HL.val (Val.assign rfl) (by decide) ?_
  refine HL.nil ?_
  refine HQ.next ?_
  refine HC.seq ?_
  refine HC.region ?_
  refine HL.new (New.alloc al81) (by decide) ?_
  intro b1 hb1
  refine HL.nil ?_
  refine HQ.next ?_
  refine HC.seq ?_
  refine HC.region ?_
  refine HL.val (Val.load_row rfl (fun w hw => hw.at (i := 0) rfl) Tryd.underlying81 rfl (by kernel_rfl)) (by decide) ?_
  refine HL.val (Val.call en75 (size_p) rfl) (by decide) ?_
  refine HL.val ((Val.convI rfl rfl Tryd.underlying3).as (v := .int .i64 16) rfl) (by decide) ?_
  refine HL.val (Val.assign rfl) (by decide) ?_
  refine HL.nil ?_
  refine HQ.next ?_
  refine HC.ret ?_
  exact HQ.ret1 rfl rfl (pure_end rfl)
end Go.Proofs.YtgdfdkpkhjbibaaDoor
