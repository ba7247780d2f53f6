/-
  The comparison in constant time, and which keys are valid (written by genva.py).
-/
import Derived.Test.YteehdjkmjncehaaDoorIz
import Derived.Test.YteehdjkmjncehaaDoorHQ
import Derived.Test.YteehdjkmjncehaaDoorSc
namespace Go.Proofs.YteehdjkmjncehaaDoor
open Go.RowKit
theorem byL_oneA (n v : Nat) : ∀ x ∈ byA n v, x.oneCell' = true := fun x hx => byL_one n v x (by simpa using hx)
/-- Whether something is so, as a number. -/
def orB (c : Bool) : Nat := if c then 1 else 0
theorem orB_or (c d : Bool) : bits .or .i64 ((orB c : Nat) : Int) ((orB d : Nat) : Int) = ((orB (c || d) : Nat) : Int) := by cases c <;> cases d <;> decide +kernel
theorem orB_eql (c : Bool) : (((orB c : Nat) : Int) == 0) = !c := by cases c <;> decide
theorem b8_ex : (Extern.find Tryd.f87).isSome = true := by kernel_rfl
theorem b8_run (c : Bool) (w : World) : (((Extern.find Tryd.f87).get b8_ex) #[.bool c]).run Tryd.prog w = .ok (.int .u8 ((orB c : Nat) : Int)) w := by
  cases c <;> kernel_rfl
theorem b8V (c : Bool) (w : World) : (callFunc 87 [Value.bool c].toArray).run Tryd.prog w = .ok (.value (.int .u8 ((orB c : Nat) : Int))) w := by
  rw [run_callFunc_extern Tryd.func87 (by kernel_rfl) (by kernel_rfl) (by kernel_rfl) (e := (Extern.find Tryd.f87).get b8_ex) (by simp)]
  have h := b8_run c w
  rw [show [Value.bool c].toArray = #[.bool c] from rfl, h]; rfl
theorem conv8 (c : Bool) : IntKind.i64.wrap ((orB c : Nat) : Int) = ((orB c : Nat) : Int) := by cases c <;> decide
theorem eql0 (v : Nat) : ((v : Int) == 0) = decide (v = 0) := by
  rw [Bool.eq_iff_iff, beq_iff_eq, decide_eq_true_eq]; omega

set_option maxRecDepth 100000 in
theorem byteEq (v : Nat) : Pure Tryd.prog 83 #[.int .u8 (v : Int), .int .u8 0] (.int .i64 ((orB (decide (v = 0)) : Nat) : Int)) := by
  intro w
  refine calls_H (args := [.int .u8 (v : Int), .int .u8 0]) noD [] Tryd.func83 rfl (m := 10) rfl rfl (hold_nil _ _) ?_
  refine HC.seq ?_
  refine HC.region ?_
  refine HL.val (Val.assign rfl) (by decide) ?_
  refine HL.nil ?_
  refine HQ.next ?_
  refine HC.seq ?_
  refine HC.region ?_
  refine HL.val (Val.move rfl) (by decide) ?_
  refine HL.val (Val.move rfl) (by decide) ?_
  refine HL.val ((Val.eqlI rfl rfl).as (congrArg Value.bool (eql0 v))) (by decide) ?_
  refine HL.val (Val.callV (b8V (decide (v = 0))) rfl) (by decide) ?_
  refine HL.val ((Val.convI rfl rfl Tryd.underlying3).as (congrArg (Value.int .i64) (conv8 _))) (by decide) ?_
  refine HL.val (Val.assign rfl) (by decide) ?_
  refine HL.nil ?_
  refine HQ.next ?_
  refine HC.ret ?_
  exact HQ.ret1 rfl rfl (pure_end rfl)

/-- What the loop keeps: the differing bits so far. -/
structure CtI (x y : Nat) (p : Nat × Nat) : Prop where
  le : p.1 ≤ 32
  lt : p.2 < 256
  iff : p.2 = 0 ↔ x % 256 ^ p.1 = y % 256 ^ p.1
def ctV (x y k v : Nat) : Nat := v ||| ((x / 256 ^ k % 256) ^^^ (y / 256 ^ k % 256))
theorem mod_up (x k : Nat) : x % 256 ^ (k + 1) = x % 256 ^ k + 256 ^ k * (x / 256 ^ k % 256) := by rw [Nat.pow_succ, Nat.mod_mul]
theorem xor_zero {a b : Nat} : a ^^^ b = 0 ↔ a = b := by
  constructor
  · intro h
    apply Nat.eq_of_testBit_eq
    intro i
    have := congrArg (·.testBit i) h
    simp only [Nat.testBit_xor, Nat.zero_testBit] at this
    cases h1 : a.testBit i <;> cases h2 : b.testBit i <;> simp_all
  · rintro rfl; exact Nat.xor_self a
theorem ctI_next {x y k v : Nat} (h : CtI x y (k, v)) (hk : k < 32) : CtI x y (k + 1, ctV x y k v) := by
  have hx : x / 256 ^ k % 256 < 2 ^ 8 := Nat.mod_lt _ (by decide)
  have hy : y / 256 ^ k % 256 < 2 ^ 8 := Nat.mod_lt _ (by decide)
  refine ⟨hk, ?_, ?_⟩
  · show ctV x y k v < 2 ^ 8
    exact Nat.or_lt_two_pow h.lt (Nat.xor_lt_two_pow hx hy)
  · show ctV x y k v = 0 ↔ _
    have h1 : v = 0 ↔ x % 256 ^ k = y % 256 ^ k := h.iff
    unfold ctV
    rw [Nat.or_eq_zero_iff, xor_zero, h1, mod_up, mod_up]
    constructor
    · rintro ⟨h2, h3⟩; rw [h2, h3]
    · intro h2
      have p0 : 0 < 256 ^ k := Nat.pow_pos (by decide)
      have a1 : x % 256 ^ k < 256 ^ k := Nat.mod_lt _ p0
      have a2 : y % 256 ^ k < 256 ^ k := Nat.mod_lt _ p0
      have e1 : x % 256 ^ k = y % 256 ^ k := by
        have := congrArg (· % 256 ^ k) h2
        simpa [Nat.add_mul_mod_self_left, Nat.mod_mod] using this
      refine ⟨e1, ?_⟩
      rw [e1] at h2
      exact Nat.eq_of_mul_eq_mul_left p0 (Nat.add_left_cancel h2)
theorem ct_bits {x y k v : Nat} (h : CtI x y (k, v)) : bits .or .u8 (v : Int) ((((x / 256 ^ k % 256) ^^^ (y / 256 ^ k % 256) : Nat)) : Int) = ((ctV x y k v : Nat) : Int) :=
  u8_or_nat v _ h.lt (Nat.xor_lt_two_pow (n := 8) (Nat.mod_lt _ (by decide)) (Nat.mod_lt _ (by decide)))
theorem ct_xor (x y k : Nat) : bits .xor .u8 ((x / 256 ^ k % 256 : Nat) : Int) ((y / 256 ^ k % 256 : Nat) : Int) = ((((x / 256 ^ k % 256) ^^^ (y / 256 ^ k % 256) : Nat)) : Int) := u8_xor_nat _ _ (Nat.mod_lt _ (by decide)) (Nat.mod_lt _ (by decide))
theorem ct_end {x y v : Nat} (h : CtI x y (32, v)) (hx : x < 2 ^ 256) (hy : y < 2 ^ 256) : decide (v = 0) = decide (x = y) := by
  have h1 : v = 0 ↔ x % 256 ^ 32 = y % 256 ^ 32 := h.iff
  rw [Nat.mod_eq_of_lt (lt_256_32 hx), Nat.mod_eq_of_lt (lt_256_32 hy)] at h1
  rw [Bool.eq_iff_iff, decide_eq_true_eq, decide_eq_true_eq]; exact h1

set_option maxRecDepth 100000 in
theorem ctComp {bx by_ Tx Ty x y : Nat} {w : World} (h0 : w.heap[bx]? = some (.cells (byA 32 x) Tx (0, 0))) (h1 : w.heap[by_]? = some (.cells (byA 32 y) Ty (0, 0))) (hn : bx ≠ by_) (hx : x < 2 ^ 256) (hy : y < 2 ^ 256) :
    Calls Tryd.prog 73 #[.slice (some ⟨bx, 0, none⟩) 32 32, .slice (some ⟨by_, 0, none⟩) 32 32] w fun e w' => e = .returned (.int .i64 ((orB (decide (x = y)) : Nat) : Int)) ∧ Below w.heap.size w w' := by
  refine calls_H (args := [.slice (some ⟨bx, 0, none⟩) 32 32, .slice (some ⟨by_, 0, none⟩) 32 32]) noD [(bx, .cells (byA 32 x) Tx (0, 0)), (by_, .cells (byA 32 y) Ty (0, 0))] Tryd.func73 rfl (m := 31) rfl rfl (hold_two' h0 h1 hn) ?_
  refine HC.seq ?_
  refine HC.region ?_
  refine HL.val (Val.assign rfl) (by decide) ?_
  refine HL.nil ?_
  refine HQ.next ?_
  refine HC.seq ?_
  refine HC.seq ?_
  refine HC.region ?_
  refine HL.val (Val.move rfl) (by decide) ?_
  refine HL.val (Val.lenS rfl rfl Tryd.underlying66) (by decide) ?_
  refine HL.val (Val.move rfl) (by decide) ?_
  refine HL.val (Val.lenS rfl rfl Tryd.underlying66) (by decide) ?_
  refine HL.val (Val.neqI rfl rfl) (by decide) ?_
  refine HL.nil ?_
  refine HQ.next ?_
  refine HC.no rfl ?_
  refine HC.skip ?_
  refine HQ.next ?_
  refine HC.seq ?_
  refine HC.region ?_
  refine HL.val (Val.assign rfl) (by decide) ?_
  refine HL.nil ?_
  refine HQ.next ?_
  refine HC.seq ?_
  refine HC.seq ?_
  refine HC.region ?_
  refine HL.val (Val.assign rfl) (by decide) ?_
  refine HL.nil ?_
  refine HQ.next ?_
  refine HC.block ?_
  refine HC.loop (ι := {p : Nat × Nat // CtI x y p}) (fun p => 32 - p.1.1) (fun p => [(0, .slice (some ⟨bx, 0, none⟩) 32 32), (1, .slice (some ⟨by_, 0, none⟩) 32 32), (6, .int .i64 (p.1.1 : Int)), (5, .int .u8 (p.1.2 : Int))]) (fun p => [(bx, .cells (byA 32 x) Tx (0, 0)), (by_, .cells (byA 32 y) Ty (0, 0))]) ⟨(0, 0), Nat.zero_le _, by decide, by simp [Nat.mod_one]⟩ (fun ac wc ha hw => ⟨ha.subS ⟨rfl, rfl, rfl, rfl, trivial⟩, hw.pick [0, 1] (by simp)⟩) ?_
  rintro ⟨⟨k, v⟩, hI⟩
  dsimp only
  rcases (show k = 32 ∨ k < 32 from by have := hI.le; dsimp only at this; omega) with rfl | hlt
  · refine HC.seq ?_
    refine HC.seq ?_
    refine HC.region ?_
    refine HL.val (Val.move rfl) (by decide) ?_
    refine HL.val (Val.move rfl) (by decide) ?_
    refine HL.val (Val.lenS rfl rfl Tryd.underlying66) (by decide) ?_
    refine HL.val ((Val.lss rfl rfl).as (v := .bool false) rfl) (by decide) ?_
    refine HL.nil ?_
    refine HQ.next ?_
    refine HC.no rfl ?_
    refine HC.exit ?_
    refine HQ.thenExit ?_
    refine HQ.thenExit ?_
    refine HQ.blockExit ?_
    refine HQ.next ?_
    refine HC.seq ?_
    refine HC.region ?_
    refine HL.val (Val.move rfl) (by decide) ?_
    refine HL.val ((Val.call en83 (byteEq v) rfl).as (congrArg (fun c : Bool => Value.int .i64 ((orB c : Nat) : Int)) (ct_end hI hx hy))) (by decide) ?_
    refine HL.val (Val.assign rfl) (by decide) ?_
    refine HL.nil ?_
    refine HQ.next ?_
    refine HC.ret ?_
    exact HQ.ret1 rfl rfl (pure_end rfl)
  · refine HC.seq ?_
    refine HC.seq ?_
    refine HC.region ?_
    refine HL.val (Val.move rfl) (by decide) ?_
    refine HL.val (Val.move rfl) (by decide) ?_
    refine HL.val (Val.lenS rfl rfl Tryd.underlying66) (by decide) ?_
    refine HL.val ((Val.lss rfl rfl).as (congrArg Value.bool ((lssN k 32).trans (decide_eq_true hlt)))) (by decide) ?_
    refine HL.nil ?_
    refine HQ.next ?_
    refine HC.yes rfl ?_
    refine HC.skip ?_
    refine HQ.next ?_
    refine HC.seq ?_
    refine HC.block ?_
    refine HC.draw0 11 (by kernel_rfl) (by kernel_rfl) ?_
    simp only [List.take, List.drop]
    refine HV.val (Val.move rfl) (by decide) ?_
    refine HV.val (Val.move rfl) (by decide) ?_
    refine HV.val (Val.move rfl) (by decide) ?_
    refine HV.val (Val.ixSlice (s := 1) (i := k) k rfl rfl Tryd.underlying66 (by kernel_rfl) hlt (by omega)) (by decide) ?_
    refine HV.val (Val.load_cell rfl (fun w hw => hw.at (i := 0) rfl) (byA_get hlt) Tryd.underlying5 rfl) (by decide) ?_
    refine HV.val (Val.move rfl) (by decide) ?_
    refine HV.val (Val.move rfl) (by decide) ?_
    refine HV.val (Val.ixSlice (s := 1) (i := k) k rfl rfl Tryd.underlying66 (by kernel_rfl) hlt (by omega)) (by decide) ?_
    refine HV.val (Val.load_cell rfl (fun w hw => hw.at (i := 1) rfl) (byA_get hlt) Tryd.underlying5 rfl) (by decide) ?_
    refine HV.val ((Val.xorI rfl rfl).as (congrArg (Value.int .u8) (ct_xor x y k))) (by decide) ?_
    refine HV.val ((Val.orI rfl rfl).as (congrArg (Value.int .u8) (ct_bits hI))) (by decide) ?_
    refine HV.tail0 ?_
    refine HL.val (Val.assign rfl) (by decide) ?_
    refine HL.nil ?_
    refine HQ.blockNormal ?_
    refine HQ.next ?_
    refine HC.region ?_
    refine HL.val (Val.move rfl) (by decide) ?_
    refine HL.val ((Val.addI rfl rfl).as (congrArg (Value.int .i64) (wrap1 k (by omega)))) (by decide) ?_
    refine HL.val (Val.assign rfl) (by decide) ?_
    refine HL.nil ?_
    exact ⟨fun ac wc ha hw => ⟨⟨(k + 1, ctV x y k v), ctI_next hI hlt⟩, by dsimp only; omega, ha.subS ⟨rfl, rfl, rfl, rfl, trivial⟩, hw⟩⟩

set_option maxRecDepth 100000 in
theorem ctComp2 {bx by_ Tx Ty x y : Nat} {w : World} (h0 : w.heap[bx]? = some (.cells (byA 32 x) Tx (0, 0))) (h1 : w.heap[by_]? = some (.cells (byA 32 y) Ty (0, 0))) (hn : bx ≠ by_) (hx : x < 2 ^ 256) (hy : y < 2 ^ 256) :
    Calls Tryd.prog 64 #[.slice (some ⟨bx, 0, none⟩) 32 32, .slice (some ⟨by_, 0, none⟩) 32 32] w fun e w' => e = .returned (.int .i64 ((orB (decide (x = y)) : Nat) : Int)) ∧ Below w.heap.size w w' := by
  refine calls_H (args := [.slice (some ⟨bx, 0, none⟩) 32 32, .slice (some ⟨by_, 0, none⟩) 32 32]) noD [(bx, .cells (byA 32 x) Tx (0, 0)), (by_, .cells (byA 32 y) Ty (0, 0))] Tryd.func64 rfl (m := 8) rfl rfl (hold_two' h0 h1 hn) ?_
  refine HC.seq ?_
  refine HC.region ?_
  refine HL.val (Val.assign rfl) (by decide) ?_
  refine HL.nil ?_
  refine HQ.next ?_
  refine HC.seq ?_
  refine HC.region ?_
  refine HL.val (Val.move rfl) (by decide) ?_
  refine HL.val (Val.move rfl) (by decide) ?_
  refine HL.val (Val.calls en73 (fun w hw => ctComp (hw.at (i := 0) rfl) (hw.at (i := 1) rfl) hn hx hy) rfl) (by decide) ?_
  refine HL.val (Val.assign rfl) (by decide) ?_
  refine HL.nil ?_
  refine HQ.next ?_
  refine HC.ret ?_
  exact HQ.ret1 rfl rfl (pure_end rfl)

/-- Whether a key below the prime is none of the listed points. -/
def vld (x : Nat) : Bool := !(((((false || (decide (0 = x))) || (decide (1 = x))) || (decide (325606250916557431795983626356110631294008115727848805560023387167927233504 = x))) || (decide (39382357235489614581723060781553021112529911719440698176882885853963445705823 = x))) || (decide (57896044618658097711785492504343953926634992332820282019728792003956564819948 = x)))
set_option maxRecDepth 100000 in
theorem isValid_any {bk T x : Nat} {w : World} (hl : LG w) (hb : w.heap[bk]? = some (.cells (byA 32 x) T (0, 0))) (lx : x < 2 ^ 256) (hg : (fun k => k == bk) 1 = false) :
    Calls Tryd.prog 51 #[.pointer (some ⟨bk, 0, none⟩)] w fun e w' => e = .returned (.bool (vld (x % p25))) ∧ Hold (fun k => k == bk) w [(bk, .cells (byA 32 (x % p25)) T (0, 0))] w' := by
  refine calls_H (args := [.pointer (some ⟨bk, 0, none⟩)]) (fun k => k == bk) [(bk, .cells (byA 32 x) T (0, 0))] Tryd.func51 rfl (m := 22) rfl rfl (hold_one hb) ?_
  refine HC.seq ?_
  refine HC.region ?_
  refine HL.val (Val.assign rfl) (by decide) ?_
  refine HL.nil ?_
  refine HQ.next ?_
  refine HC.seq ?_
  refine HC.region ?_
  refine HL.val (Val.move rfl) (by decide) ?_
  refine HL.call (f := 50) en50 rfl (modpH (dst1 0 rfl (ownB bk)) (elh1 0 rfl) lx) (by decide) ?_
  rintro _ ⟨_, rfl⟩
  simp only [List.set_cons_zero]
  refine HL.nil ?_
  refine HQ.next ?_
  refine HC.seq ?_
  refine HC.region ?_
  refine HL.val ((Val.assign rfl).as (v := .int .i64 ((orB false : Nat) : Int)) rfl) (by decide) ?_
  refine HL.nil ?_
  refine HQ.next ?_
  refine HC.seq ?_
  refine HC.seq ?_
  refine HC.region ?_
  refine HL.val (Val.load_cells (elA lowL) rfl (fun w hw => hl.sn hw.sn hg) Tryd.underlying64 rfl (sz64 _ _ _ _ _)) (by decide) ?_
  refine HL.val (Val.move rfl) (by decide) ?_
  refine HL.nil ?_
  refine HQ.next ?_
  refine HC.block ?_
  refine HC.loopN 5 ?_
  refine HC.seq ?_
  refine HC.region ?_
  refine HL.val (Val.lss rfl rfl) (by decide) ?_
  refine HL.nil ?_
  refine HQ.next ?_
  refine HC.seq ?_
  refine HC.yes rfl ?_
  refine HC.skip ?_
  refine HQ.next ?_
  refine HC.seq ?_
  refine HC.block ?_
  refine HC.seq ?_
  refine HC.region ?_
  refine HL.val (Val.indexN (s := 32) (i := 0) (byA 32 0) rfl rfl Tryd.underlying64 Tryd.underlying41 rfl (by kernel_rfl) (by decide) (elA_ext 0 rfl)) (by decide) ?_
  refine HL.new (New.alloc al41) (by decide) ?_
  intro b1 hb1
  refine HL.put 0 rfl (Put.row rfl rfl (sz41 _) (eqsz32 _ _) (one32 _)) (.inl hb1) ?_
  simp only [List.set_cons_zero]
  refine HL.nil ?_
  refine HQ.next ?_
  refine HC.draw0 7 (by kernel_rfl) (by kernel_rfl) ?_
  simp only [List.take, List.drop]
  refine HV.val (Val.move rfl) (by decide) ?_
  refine HV.val (Val.sliceAll (s := 1) rfl Tryd.underlying41 (by kernel_rfl)) (by decide) ?_
  refine HV.val (Val.move rfl) (by decide) ?_
  refine HV.val (Val.nilCheck rfl) (by decide) ?_
  refine HV.val (Val.sliceAll (s := 1) rfl Tryd.underlying47 (by kernel_rfl)) (by decide) ?_
  refine HV.val (Val.calls en64 (fun w hw => ctComp2 (hw.at (i := 0) rfl) (hw.at (i := 1) rfl) (nd_ne3 hw (i := 0) (j := 1) rfl rfl (by decide)) (by decide) (lt256 _)) rfl) (by decide) ?_
  refine HV.val ((Val.orI rfl rfl).as (congrArg (Value.int .i64) (orB_or false (decide (0 = (x % p25)))))) (by decide) ?_
  refine HV.tail0 ?_
  refine HL.val (Val.assign rfl) (by decide) ?_
  refine HL.nil ?_
  refine HQ.blockNormal ?_
  refine HQ.next ?_
  refine HC.region ?_
  refine HL.val ((Val.addI rfl rfl).as (v := .int .i64 1) rfl) (by decide) ?_
  refine HL.val (Val.move rfl) (by decide) ?_
  refine HL.nil ?_
  refine HQ.againN ?_
  refine HC.seq ?_
  refine HC.region ?_
  refine HL.val (Val.lss rfl rfl) (by decide) ?_
  refine HL.nil ?_
  refine HQ.next ?_
  refine HC.seq ?_
  refine HC.yes rfl ?_
  refine HC.skip ?_
  refine HQ.next ?_
  refine HC.seq ?_
  refine HC.block ?_
  refine HC.seq ?_
  refine HC.region ?_
  refine HL.val (Val.indexN (s := 32) (i := 1) (byA 32 1) rfl rfl Tryd.underlying64 Tryd.underlying41 rfl (by kernel_rfl) (by decide) (elA_ext 1 rfl)) (by decide) ?_
  refine HL.new (New.alloc al41) (by decide) ?_
  intro b2 hb2
  refine HL.put 0 rfl (Put.row rfl rfl (sz41 _) (eqsz32 _ _) (one32 _)) (.inl hb2) ?_
  simp only [List.set_cons_zero]
  refine HL.nil ?_
  refine HQ.next ?_
  refine HC.draw0 7 (by kernel_rfl) (by kernel_rfl) ?_
  simp only [List.take, List.drop]
  refine HV.val (Val.move rfl) (by decide) ?_
  refine HV.val (Val.sliceAll (s := 1) rfl Tryd.underlying41 (by kernel_rfl)) (by decide) ?_
  refine HV.val (Val.move rfl) (by decide) ?_
  refine HV.val (Val.nilCheck rfl) (by decide) ?_
  refine HV.val (Val.sliceAll (s := 1) rfl Tryd.underlying47 (by kernel_rfl)) (by decide) ?_
  refine HV.val (Val.calls en64 (fun w hw => ctComp2 (hw.at (i := 0) rfl) (hw.at (i := 2) rfl) (nd_ne3 hw (i := 0) (j := 2) rfl rfl (by decide)) (by decide) (lt256 _)) rfl) (by decide) ?_
  refine HV.val ((Val.orI rfl rfl).as (congrArg (Value.int .i64) (orB_or (false || (decide (0 = (x % p25)))) (decide (1 = (x % p25)))))) (by decide) ?_
  refine HV.tail0 ?_
  refine HL.val (Val.assign rfl) (by decide) ?_
  refine HL.nil ?_
  refine HQ.blockNormal ?_
  refine HQ.next ?_
  refine HC.region ?_
  refine HL.val ((Val.addI rfl rfl).as (v := .int .i64 2) rfl) (by decide) ?_
  refine HL.val (Val.move rfl) (by decide) ?_
  refine HL.nil ?_
  refine HQ.againN ?_
  refine HC.seq ?_
  refine HC.region ?_
  refine HL.val (Val.lss rfl rfl) (by decide) ?_
  refine HL.nil ?_
  refine HQ.next ?_
  refine HC.seq ?_
  refine HC.yes rfl ?_
  refine HC.skip ?_
  refine HQ.next ?_
  refine HC.seq ?_
  refine HC.block ?_
  refine HC.seq ?_
  refine HC.region ?_
  refine HL.val (Val.indexN (s := 32) (i := 2) (byA 32 325606250916557431795983626356110631294008115727848805560023387167927233504) rfl rfl Tryd.underlying64 Tryd.underlying41 rfl (by kernel_rfl) (by decide) (elA_ext 2 rfl)) (by decide) ?_
  refine HL.new (New.alloc al41) (by decide) ?_
  intro b3 hb3
  refine HL.put 0 rfl (Put.row rfl rfl (sz41 _) (eqsz32 _ _) (one32 _)) (.inl hb3) ?_
  simp only [List.set_cons_zero]
  refine HL.nil ?_
  refine HQ.next ?_
  refine HC.draw0 7 (by kernel_rfl) (by kernel_rfl) ?_
  simp only [List.take, List.drop]
  refine HV.val (Val.move rfl) (by decide) ?_
  refine HV.val (Val.sliceAll (s := 1) rfl Tryd.underlying41 (by kernel_rfl)) (by decide) ?_
  refine HV.val (Val.move rfl) (by decide) ?_
  refine HV.val (Val.nilCheck rfl) (by decide) ?_
  refine HV.val (Val.sliceAll (s := 1) rfl Tryd.underlying47 (by kernel_rfl)) (by decide) ?_
  refine HV.val (Val.calls en64 (fun w hw => ctComp2 (hw.at (i := 0) rfl) (hw.at (i := 3) rfl) (nd_ne3 hw (i := 0) (j := 3) rfl rfl (by decide)) (by decide) (lt256 _)) rfl) (by decide) ?_
  refine HV.val ((Val.orI rfl rfl).as (congrArg (Value.int .i64) (orB_or ((false || (decide (0 = (x % p25)))) || (decide (1 = (x % p25)))) (decide (325606250916557431795983626356110631294008115727848805560023387167927233504 = (x % p25)))))) (by decide) ?_
  refine HV.tail0 ?_
  refine HL.val (Val.assign rfl) (by decide) ?_
  refine HL.nil ?_
  refine HQ.blockNormal ?_
  refine HQ.next ?_
  refine HC.region ?_
  refine HL.val ((Val.addI rfl rfl).as (v := .int .i64 3) rfl) (by decide) ?_
  refine HL.val (Val.move rfl) (by decide) ?_
  refine HL.nil ?_
  refine HQ.againN ?_
  refine HC.seq ?_
  refine HC.region ?_
  refine HL.val (Val.lss rfl rfl) (by decide) ?_
  refine HL.nil ?_
  refine HQ.next ?_
  refine HC.seq ?_
  refine HC.yes rfl ?_
  refine HC.skip ?_
  refine HQ.next ?_
  refine HC.seq ?_
  refine HC.block ?_
  refine HC.seq ?_
  refine HC.region ?_
  refine HL.val (Val.indexN (s := 32) (i := 3) (byA 32 39382357235489614581723060781553021112529911719440698176882885853963445705823) rfl rfl Tryd.underlying64 Tryd.underlying41 rfl (by kernel_rfl) (by decide) (elA_ext 3 rfl)) (by decide) ?_
  refine HL.new (New.alloc al41) (by decide) ?_
  intro b4 hb4
  refine HL.put 0 rfl (Put.row rfl rfl (sz41 _) (eqsz32 _ _) (one32 _)) (.inl hb4) ?_
  simp only [List.set_cons_zero]
  refine HL.nil ?_
  refine HQ.next ?_
  refine HC.draw0 7 (by kernel_rfl) (by kernel_rfl) ?_
  simp only [List.take, List.drop]
  refine HV.val (Val.move rfl) (by decide) ?_
  refine HV.val (Val.sliceAll (s := 1) rfl Tryd.underlying41 (by kernel_rfl)) (by decide) ?_
  refine HV.val (Val.move rfl) (by decide) ?_
  refine HV.val (Val.nilCheck rfl) (by decide) ?_
  refine HV.val (Val.sliceAll (s := 1) rfl Tryd.underlying47 (by kernel_rfl)) (by decide) ?_
  refine HV.val (Val.calls en64 (fun w hw => ctComp2 (hw.at (i := 0) rfl) (hw.at (i := 4) rfl) (nd_ne3 hw (i := 0) (j := 4) rfl rfl (by decide)) (by decide) (lt256 _)) rfl) (by decide) ?_
  refine HV.val ((Val.orI rfl rfl).as (congrArg (Value.int .i64) (orB_or (((false || (decide (0 = (x % p25)))) || (decide (1 = (x % p25)))) || (decide (325606250916557431795983626356110631294008115727848805560023387167927233504 = (x % p25)))) (decide (39382357235489614581723060781553021112529911719440698176882885853963445705823 = (x % p25)))))) (by decide) ?_
  refine HV.tail0 ?_
  refine HL.val (Val.assign rfl) (by decide) ?_
  refine HL.nil ?_
  refine HQ.blockNormal ?_
  refine HQ.next ?_
  refine HC.region ?_
  refine HL.val ((Val.addI rfl rfl).as (v := .int .i64 4) rfl) (by decide) ?_
  refine HL.val (Val.move rfl) (by decide) ?_
  refine HL.nil ?_
  refine HQ.againN ?_
  refine HC.seq ?_
  refine HC.region ?_
  refine HL.val (Val.lss rfl rfl) (by decide) ?_
  refine HL.nil ?_
  refine HQ.next ?_
  refine HC.seq ?_
  refine HC.yes rfl ?_
  refine HC.skip ?_
  refine HQ.next ?_
  refine HC.seq ?_
  refine HC.block ?_
  refine HC.seq ?_
  refine HC.region ?_
  refine HL.val (Val.indexN (s := 32) (i := 4) (byA 32 57896044618658097711785492504343953926634992332820282019728792003956564819948) rfl rfl Tryd.underlying64 Tryd.underlying41 rfl (by kernel_rfl) (by decide) (elA_ext 4 rfl)) (by decide) ?_
  refine HL.new (New.alloc al41) (by decide) ?_
  intro b5 hb5
  refine HL.put 0 rfl (Put.row rfl rfl (sz41 _) (eqsz32 _ _) (one32 _)) (.inl hb5) ?_
  simp only [List.set_cons_zero]
  refine HL.nil ?_
  refine HQ.next ?_
  refine HC.draw0 7 (by kernel_rfl) (by kernel_rfl) ?_
  simp only [List.take, List.drop]
  refine HV.val (Val.move rfl) (by decide) ?_
  refine HV.val (Val.sliceAll (s := 1) rfl Tryd.underlying41 (by kernel_rfl)) (by decide) ?_
  refine HV.val (Val.move rfl) (by decide) ?_
  refine HV.val (Val.nilCheck rfl) (by decide) ?_
  refine HV.val (Val.sliceAll (s := 1) rfl Tryd.underlying47 (by kernel_rfl)) (by decide) ?_
  refine HV.val (Val.calls en64 (fun w hw => ctComp2 (hw.at (i := 0) rfl) (hw.at (i := 5) rfl) (nd_ne3 hw (i := 0) (j := 5) rfl rfl (by decide)) (by decide) (lt256 _)) rfl) (by decide) ?_
  refine HV.val ((Val.orI rfl rfl).as (congrArg (Value.int .i64) (orB_or ((((false || (decide (0 = (x % p25)))) || (decide (1 = (x % p25)))) || (decide (325606250916557431795983626356110631294008115727848805560023387167927233504 = (x % p25)))) || (decide (39382357235489614581723060781553021112529911719440698176882885853963445705823 = (x % p25)))) (decide (57896044618658097711785492504343953926634992332820282019728792003956564819948 = (x % p25)))))) (by decide) ?_
  refine HV.tail0 ?_
  refine HL.val (Val.assign rfl) (by decide) ?_
  refine HL.nil ?_
  refine HQ.blockNormal ?_
  refine HQ.next ?_
  refine HC.region ?_
  refine HL.val ((Val.addI rfl rfl).as (v := .int .i64 5) rfl) (by decide) ?_
  refine HL.val (Val.move rfl) (by decide) ?_
  refine HL.nil ?_
  refine HQ.againN ?_
  refine HC.seq ?_
  refine HC.region ?_
  refine HL.val (Val.lss rfl rfl) (by decide) ?_
  refine HL.nil ?_
  refine HQ.next ?_
  refine HC.seq ?_
  refine HC.no rfl ?_
  refine HC.exit ?_
  refine HQ.thenExit ?_
  refine HQ.thenExit ?_
  refine HQ.blockExit ?_
  refine HQ.next ?_
  refine HC.seq ?_
  refine HC.region ?_
  refine HL.val (Val.move rfl) (by decide) ?_
  refine HL.val ((Val.eqlI rfl rfl).as (congrArg Value.bool (orB_eql (((((false || (decide (0 = (x % p25)))) || (decide (1 = (x % p25)))) || (decide (325606250916557431795983626356110631294008115727848805560023387167927233504 = (x % p25)))) || (decide (39382357235489614581723060781553021112529911719440698176882885853963445705823 = (x % p25)))) || (decide (57896044618658097711785492504343953926634992332820282019728792003956564819948 = (x % p25))))))) (by decide) ?_
  refine HL.val (Val.assign rfl) (by decide) ?_
  refine HL.nil ?_
  refine HQ.next ?_
  refine HC.ret ?_
  exact HQ.ret1 rfl rfl (fun w hw => ⟨rfl, hw.pick [5] (by simp)⟩)
theorem isValidH (i : Nat) {D : Nat → Bool} {u0 w : World} {η : List (Nat × Obj)} {bk T x : Nat} (hl : LG u0) (hd : D 1 = false) (hi : η[i]? = some (bk, .cells (byA 32 x) T (0, 0))) (hD : u0.heap.size ≤ bk) (lx : x < 2 ^ 256) (hw : Hold D u0 η w) :
    Calls Tryd.prog 51 #[.pointer (some ⟨bk, 0, none⟩)] w fun e w' => e = .returned (.bool (vld (x % p25))) ∧ Hold D u0 (η.set i (bk, .cells (byA 32 (x % p25)) T (0, 0))) w' :=
  lift_one hw hi (.inl hD) (isValid_any (hl.sn hw.sn hd) (hw.at hi) lx (by have := hl.lt; simp; omega))

set_option maxRecDepth 100000 in
theorem zzValid {x : Nat} {w : World} (hl : LG w) (hx : x < 2 ^ 256) : Calls Tryd.prog 34 #[byV 32 x] w fun e w' => e = .returned (.bool (vld (x % p25))) ∧ Below w.heap.size w w' := by
  refine calls_H (args := [byV 32 x]) noD [] Tryd.func34 rfl (m := 4) rfl rfl (hold_nil _ _) ?_
  refine HC.seq ?_
  refine HC.region ?_
  refine HL.new (New.box rfl) (by decide) ?_
  intro b1 hb1
  refine HL.val (Val.assign rfl) (by decide) ?_
  refine HL.nil ?_
  refine HQ.next ?_
  refine HC.seq ?_
  refine HC.region ?_
  refine HL.callD en51 rfl (fun w hw => isValidH 0 hl rfl rfl hb1 hx hw) (by decide) ?_
  simp only [List.set_cons_zero]
  refine HL.val (Val.assign rfl) (by decide) ?_
  refine HL.nil ?_
  refine HQ.next ?_
  refine HC.ret ?_
  exact HQ.ret1 rfl rfl (pure_end rfl)

set_option maxRecDepth 100000 in
theorem implValid {x : Nat} {w : World} (hl : LG w) (hx : x < 2 ^ 256) : Calls Tryd.prog 18 #[byV 32 x] w fun e w' => e = .returned (.bool (vld (x % p25))) ∧ Below w.heap.size w w' := by
  refine calls_H (args := [byV 32 x]) noD [] Tryd.func18 rfl (m := 5) rfl rfl (hold_nil _ _) ?_
  refine HC.seq ?_
  refine HC.region ?_
  refine HL.new (New.box rfl) (by decide) ?_
  intro b1 hb1
  refine HL.val (Val.assign rfl) (by decide) ?_
  refine HL.nil ?_
  refine HQ.next ?_
  refine HC.seq ?_
  refine HC.region ?_
  refine HL.val (Val.load_row rfl (fun w hw => hw.at (i := 0) rfl) Tryd.underlying22 rfl (sz22 _)) (by decide) ?_
  refine HL.val (Val.calls en34 (fun w hw => zzValid (hl.sn hw.sn rfl) hx) rfl) (by decide) ?_
  refine HL.val (Val.assign rfl) (by decide) ?_
  refine HL.nil ?_
  refine HQ.next ?_
  refine HC.ret ?_
  exact HQ.ret1 rfl rfl (pure_end rfl)
end Go.Proofs.YteehdjkmjncehaaDoor
