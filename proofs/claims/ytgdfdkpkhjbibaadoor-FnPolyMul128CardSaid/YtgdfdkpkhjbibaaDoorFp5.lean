/-
  Equality of elements, one, roots, numbers of 64 bits, powers, inverses (written by genfp5.py).
-/
import Derived.Test.YtgdfdkpkhjbibaaDoorLc
namespace Go.Proofs.YtgdfdkpkhjbibaaDoor
open Go.RowKit
theorem Put.at {P : Program} {n : Nat} {σ : List (Nat × Value)} {t T ty : TypeId} {pos : String} {af : Array Edge} {x y : Operand} {b o r : Nat} {cs : Array Value} (hx : evS σ x = some (.pointer (some ⟨b, o, none⟩))) (hy : evS σ y = some (.agg (rawC r))) (hi : (P.info? t).map (·.size) = some nl) (ho : o + nl ≤ cs.size) :
    Put P n σ ⟨none, .store t x y, ty, pos, af, none⟩ b (.cells cs T (0, 0)) (.cells (putR cs o r) T (0, 0)) :=
  Put.mid hx hy hi ho (rawC_one r) (putR_size cs o r) (fun k hk => by
    have ho' : o + 2 ≤ cs.size := ho
    have h2 : o < cs.size := by omega
    have h3 : o + 1 < cs.size := by omega
    unfold putR rawC
    by_cases h : o = k
    · subst h
      rw [if_pos ⟨Nat.le_refl _, by show o < o + 2; omega⟩, Array.getElem?_setIfInBounds, Array.getElem?_setIfInBounds, if_neg (by omega), if_pos rfl, if_pos h2, Nat.sub_self]; rfl
    · by_cases h' : o + 1 = k
      · subst h'
        rw [if_pos ⟨by omega, by show o + 1 < o + 2; omega⟩, Array.getElem?_setIfInBounds, if_pos rfl, Array.size_setIfInBounds, if_pos h3, show o + 1 - o = 1 by omega]; rfl
      · rw [if_neg (by show ¬ (o ≤ k ∧ k < o + 2); omega), Array.getElem?_setIfInBounds, Array.getElem?_setIfInBounds, if_neg h', if_neg h])
theorem dst_eq {P : Program} {D : Nat → Bool} {w0 : World} {η : List (Nat × Obj)} {η' : Nat → List (Nat × Obj)} {f : FuncId} {args : Array Value} {v : Value} {r r' : Nat} (e : r = r')
    (h : ∀ w, Hold D w0 η w → Calls P f args w fun e w' => e = .returned v ∧ Hold D w0 (η' r) w') : ∀ w, Hold D w0 η w → Calls P f args w fun e w' => e = .returned v ∧ Hold D w0 (η' r') w' := e ▸ h
theorem pw_mul (x : Nat) {a b c : Nat} (h : a + b = c) : x ^ a % pf * (x ^ b % pf) % pf = x ^ c % pf := by
  subst h; rw [← Nat.mul_mod, Nat.pow_add]
theorem pw_sqn (x : Nat) {a b c : Nat} (h : a * 2 ^ b = c) : (x ^ a % pf) ^ 2 ^ b % pf = x ^ c % pf := by
  subst h; rw [← Nat.pow_mod, Nat.pow_mul]
theorem sq_next (x k : Nat) : x ^ 2 ^ k % pf * (x ^ 2 ^ k % pf) % pf = x ^ 2 ^ (k + 1) % pf := pw_mul x (by rw [Nat.pow_succ]; omega)

def boolEntry : Array Value → Sem Value := fun
  | #[.bool b] => pure (.int .u8 (if b then 1 else 0))
  | _ => stuck "boolToUint8: a bool expected"
theorem b2u (b : Bool) (w : World) : (callFunc 144 [Value.bool b].toArray).run Tryd.prog w = .ok (.value (.int .u8 (if b then 1 else 0))) w := by
  rw [run_callFunc_extern Tryd.func144 (by kernel_rfl) (by kernel_rfl) (by kernel_rfl) (e := boolEntry) (by kernel_rfl)]
  rfl
/-- One where a number is 0. -/
def zb (z : Int) : Int := if z = 0 then 1 else 0
theorem zb_conv (z : Int) : IntKind.i64.wrap (if (z == 0) then 1 else 0) = zb z := by
  unfold zb
  by_cases h : z = 0
  · subst h; rfl
  · simp [h]; rfl

set_option maxRecDepth 100000 in
theorem ctI (z : Int) : Pure Tryd.prog 136 #[.int .i32 z, .int .i32 0] (.int .i64 (zb z)) := by
  intro w
  refine calls_H (args := [.int .i32 z, .int .i32 0]) (noD) [] Tryd.func136 rfl (m := 10) rfl rfl (hold_nil _ _) ?_
  refine HC.seq ?_
  refine HC.region ?_
  refine HL.val (Val.assign rfl) (by decide) ?_
  refine HL.nil ?_
  refine HQ.next ?_
  refine HC.seq ?_
  refine HC.region ?_
  refine HL.val (Val.move rfl) (by decide) ?_
  refine HL.val (Val.move rfl) (by decide) ?_
  refine HL.val ((Val.eqlI rfl rfl)) (by decide) ?_
  refine HL.val (Val.callV (b2u _) rfl) (by decide) ?_
  refine HL.val ((Val.convI rfl rfl Tryd.underlying3).as (congrArg (Value.int .i64) (zb_conv z))) (by decide) ?_
  refine HL.val (Val.assign rfl) (by decide) ?_
  refine HL.nil ?_
  refine HQ.next ?_
  refine HC.ret ?_
  exact HQ.ret1 rfl rfl (pure_end rfl)

theorem ctI2 (z : Int) : Pure Tryd.prog 126 #[.int .i32 z, .int .i32 0] (.int .i64 (zb z)) := by
  intro w
  refine calls_H (args := [.int .i32 z, .int .i32 0]) (noD) [] Tryd.func126 rfl (m := 8) rfl rfl (hold_nil _ _) ?_
  refine HC.seq ?_
  refine HC.region ?_
  refine HL.val (Val.assign rfl) (by decide) ?_
  refine HL.nil ?_
  refine HQ.next ?_
  refine HC.seq ?_
  refine HC.region ?_
  refine HL.val (Val.move rfl) (by decide) ?_
  refine HL.val (Val.move rfl) (by decide) ?_
  refine HL.val (Val.call en136 (ctI z) rfl) (by decide) ?_
  refine HL.val (Val.assign rfl) (by decide) ?_
  refine HL.nil ?_
  refine HQ.next ?_
  refine HC.ret ?_
  exact HQ.ret1 rfl rfl (pure_end rfl)

theorem xor64 {a b : Nat} (ha : a < 18446744073709551616) (hb : b < 18446744073709551616) : a ^^^ b < 18446744073709551616 := Nat.xor_lt_two_pow (n := 64) ha hb
theorem or64 {a b : Nat} (ha : a < 18446744073709551616) (hb : b < 18446744073709551616) : a ||| b < 18446744073709551616 := Nat.or_lt_two_pow (n := 64) ha hb
/-- What is gathered of the differences. -/
def ctv (x0 y0 x1 y1 : Nat) : Nat → Nat
  | 0 => 0
  | 1 => (x0 ^^^ y0)
  | _ => ((x0 ^^^ y0) ||| (x1 ^^^ y1))
theorem or0 {a b : Nat} (h : a ||| b = 0) : a = 0 ∧ b = 0 := by
  have h1 : a ≤ a ||| b := Nat.left_le_or
  have h2 : b ≤ a ||| b := Nat.right_le_or
  omega
theorem xor0 {a b : Nat} (h : a ^^^ b = 0) : a = b := by
  have h1 : a ^^^ b ^^^ b = 0 ^^^ b := by rw [h]
  rwa [Nat.xor_assoc, Nat.xor_self, Nat.xor_zero, Nat.zero_xor] at h1
theorem fold0 {v : Nat} (hv : v < 18446744073709551616) : (v / 4294967296 ||| v % 4294967296 = 0) ↔ v = 0 := by
  refine ⟨fun h => ?_, fun h => by subst h; rfl⟩
  have := or0 h
  omega
theorem i32_0 {c : Nat} (h : c < 4294967296) : zb (IntKind.i32.wrap (c : Int)) = if c = 0 then 1 else 0 := by
  unfold zb
  have e : IntKind.i32.wrap (c : Int) = 0 ↔ c = 0 := by
    rw [IntKind.wrap_i32]; omega
  by_cases h0 : c = 0
  · rw [if_pos h0, if_pos (e.2 h0)]
  · rw [if_neg h0, if_neg (fun h => h0 (e.1 h))]
theorem one_if (c : Prop) [Decidable c] : ((if c then (1 : Int) else 0) == 1) = decide c := by
  by_cases h : c <;> simp [h]
theorem shr32 (v : Nat) : (v : Int) / 2 ^ (32 : Int).toNat = ((v / 4294967296 : Nat) : Int) := by
  rw [show (32 : Int).toNat = 32 from rfl]; norm_cast
theorem u32a {v : Nat} (hv : v < 18446744073709551616) : IntKind.u32.wrap ((v / 4294967296 : Nat) : Int) = ((v / 4294967296 : Nat) : Int) := by rw [IntKind.wrap_u32']; omega
theorem u32b (v : Nat) : IntKind.u32.wrap (v : Int) = ((v % 4294967296 : Nat) : Int) := by rw [IntKind.wrap_u32']; omega

set_option maxRecDepth 100000 in
theorem ct_any {bx ox bz oz x0 y0 x1 y1 : Nat} {c : Prop} [Decidable c] {w0 : World} (hx0 : x0 < 18446744073709551616) (hy0 : y0 < 18446744073709551616) (hx1 : x1 < 18446744073709551616) (hy1 : y1 < 18446744073709551616) (cx0 : ∀ w, Sn noD w0 w → w.cell? ⟨bx, ox + 0, none⟩ = some (.int .u64 (x0 : Int))) (cy0 : ∀ w, Sn noD w0 w → w.cell? ⟨bz, oz + 0, none⟩ = some (.int .u64 (y0 : Int))) (cx1 : ∀ w, Sn noD w0 w → w.cell? ⟨bx, ox + 1, none⟩ = some (.int .u64 (x1 : Int))) (cy1 : ∀ w, Sn noD w0 w → w.cell? ⟨bz, oz + 1, none⟩ = some (.int .u64 (y1 : Int))) (hc : ((x0 ^^^ y0) ||| (x1 ^^^ y1)) = 0 ↔ c) :
    Calls Tryd.prog 106 #[.pointer (some ⟨bx, ox, none⟩), .pointer (some ⟨bz, oz, none⟩)] w0 fun e w' => e = .returned (.bool (decide c)) ∧ Below w0.heap.size w0 w' := by
  have hv : ((x0 ^^^ y0) ||| (x1 ^^^ y1)) < 18446744073709551616 := (or64 (xor64 hx0 hy0) (xor64 hx1 hy1))
  have hfin : (((x0 ^^^ y0) ||| (x1 ^^^ y1)) / 4294967296 ||| ((x0 ^^^ y0) ||| (x1 ^^^ y1)) % 4294967296 = 0) ↔ c := (fold0 hv).trans hc
  refine calls_H (args := [.pointer (some ⟨bx, ox, none⟩), .pointer (some ⟨bz, oz, none⟩)]) (noD) [] Tryd.func106 rfl (m := 35) rfl rfl (hold_nil _ _) ?_
  refine HC.seq ?_
  refine HC.region ?_
  refine HL.val (Val.assign rfl) (by decide) ?_
  refine HL.nil ?_
  refine HQ.next ?_
  refine HC.seq ?_
  refine HC.region ?_
  refine HL.val (Val.assign rfl) (by decide) ?_
  refine HL.nil ?_
  refine HQ.next ?_
  refine HC.seq ?_
  refine HC.seq ?_
  refine HC.region ?_
  refine HL.val (Val.assign rfl) (by decide) ?_
  refine HL.nil ?_
  refine HQ.next ?_
  refine HC.block ?_
  refine HC.loop (ι := {p : Nat // p ≤ 2}) (fun p => 2 - p.1) (fun p => [(0, .pointer (some ⟨bx, ox, none⟩)), (1, .pointer (some ⟨bz, oz, none⟩)), (6, .int .i64 (p.1 : Int)), (5, .int .u64 ((ctv x0 y0 x1 y1 p.1 : Nat) : Int))]) (fun p => []) ⟨0, Nat.zero_le _⟩ (fun ac wc ha hw => ⟨ha.subS ⟨rfl, rfl, rfl, rfl, trivial⟩, hw⟩) ?_
  rintro ⟨k, hk⟩
  dsimp only
  rcases (show k = 0 ∨ k = 1 ∨ k = 2 by omega) with rfl | rfl | rfl
  · refine HC.seq ?_
    refine HC.seq ?_
    refine HC.region ?_
    refine HL.val (Val.move rfl) (by decide) ?_
    refine HL.val (Val.lss rfl rfl) (by decide) ?_
    refine HL.nil ?_
    refine HQ.next ?_
    refine HC.yes rfl ?_
    refine HC.skip ?_
    refine HQ.next ?_
    refine HC.seq ?_
    refine HC.block ?_
    refine HC.draw0 13 (by kernel_rfl) (by kernel_rfl) ?_
    simp only [List.take, List.drop]
    refine HV.val (Val.move rfl) (by decide) ?_
    refine HV.val (Val.move rfl) (by decide) ?_
    refine HV.val (Val.move rfl) (by decide) ?_
    refine HV.val (Val.nilCheck rfl) (by decide) ?_
    refine HV.val (Val.ixAddrQ (ox + 0) (i := 0) (m := 2) (s := 1) (e := 23) rfl rfl Tryd.underlying81 (by kernel_rfl) (by decide) (by omega)) (by decide) ?_
    refine HV.val (Val.load_one rfl (fun w hw => cx0 w hw.sn) Tryd.underlying23 rfl) (by decide) ?_
    refine HV.val (Val.move rfl) (by decide) ?_
    refine HV.val (Val.move rfl) (by decide) ?_
    refine HV.val (Val.nilCheck rfl) (by decide) ?_
    refine HV.val (Val.ixAddrQ (oz + 0) (i := 0) (m := 2) (s := 1) (e := 23) rfl rfl Tryd.underlying81 (by kernel_rfl) (by decide) (by omega)) (by decide) ?_
    refine HV.val (Val.load_one rfl (fun w hw => cy0 w hw.sn) Tryd.underlying23 rfl) (by decide) ?_
    refine HV.val ((Val.xorI rfl rfl).as (congrArg (Value.int .u64) (u64_xor_nat x0 y0 hx0 hy0))) (by decide) ?_
    refine HV.val ((Val.orI rfl rfl).as (v := .int .u64 (((x0 ^^^ y0) : Nat) : Int)) (congrArg (Value.int .u64) ((u64_or_nat 0 (x0 ^^^ y0) (by decide) (xor64 hx0 hy0)).trans (by rw [Nat.zero_or])))) (by decide) ?_
    refine HV.tail0 ?_
    refine HL.val (Val.assign rfl) (by decide) ?_
    refine HL.nil ?_
    refine HQ.blockNormal ?_
    refine HQ.next ?_
    refine HC.region ?_
    refine HL.val (Val.move rfl) (by decide) ?_
    refine HL.val ((Val.addI rfl rfl).as (congrArg (Value.int .i64) (wrap1 0 (by omega)))) (by decide) ?_
    refine HL.val (Val.assign rfl) (by decide) ?_
    refine HL.nil ?_
    exact ⟨fun ac wc ha hw => ⟨⟨0 + 1, by omega⟩, by dsimp only; omega, ha.subS ⟨rfl, rfl, rfl, rfl, trivial⟩, hw⟩⟩
  · refine HC.seq ?_
    refine HC.seq ?_
    refine HC.region ?_
    refine HL.val (Val.move rfl) (by decide) ?_
    refine HL.val (Val.lss rfl rfl) (by decide) ?_
    refine HL.nil ?_
    refine HQ.next ?_
    refine HC.yes rfl ?_
    refine HC.skip ?_
    refine HQ.next ?_
    refine HC.seq ?_
    refine HC.block ?_
    refine HC.draw0 13 (by kernel_rfl) (by kernel_rfl) ?_
    simp only [List.take, List.drop]
    refine HV.val (Val.move rfl) (by decide) ?_
    refine HV.val (Val.move rfl) (by decide) ?_
    refine HV.val (Val.move rfl) (by decide) ?_
    refine HV.val (Val.nilCheck rfl) (by decide) ?_
    refine HV.val (Val.ixAddrQ (ox + 1) (i := 1) (m := 2) (s := 1) (e := 23) rfl rfl Tryd.underlying81 (by kernel_rfl) (by decide) (by omega)) (by decide) ?_
    refine HV.val (Val.load_one rfl (fun w hw => cx1 w hw.sn) Tryd.underlying23 rfl) (by decide) ?_
    refine HV.val (Val.move rfl) (by decide) ?_
    refine HV.val (Val.move rfl) (by decide) ?_
    refine HV.val (Val.nilCheck rfl) (by decide) ?_
    refine HV.val (Val.ixAddrQ (oz + 1) (i := 1) (m := 2) (s := 1) (e := 23) rfl rfl Tryd.underlying81 (by kernel_rfl) (by decide) (by omega)) (by decide) ?_
    refine HV.val (Val.load_one rfl (fun w hw => cy1 w hw.sn) Tryd.underlying23 rfl) (by decide) ?_
    refine HV.val ((Val.xorI rfl rfl).as (congrArg (Value.int .u64) (u64_xor_nat x1 y1 hx1 hy1))) (by decide) ?_
    refine HV.val ((Val.orI rfl rfl).as (v := .int .u64 ((((x0 ^^^ y0) ||| (x1 ^^^ y1)) : Nat) : Int)) (congrArg (Value.int .u64) (u64_or_nat (x0 ^^^ y0) (x1 ^^^ y1) (xor64 hx0 hy0) (xor64 hx1 hy1)))) (by decide) ?_
    refine HV.tail0 ?_
    refine HL.val (Val.assign rfl) (by decide) ?_
    refine HL.nil ?_
    refine HQ.blockNormal ?_
    refine HQ.next ?_
    refine HC.region ?_
    refine HL.val (Val.move rfl) (by decide) ?_
    refine HL.val ((Val.addI rfl rfl).as (congrArg (Value.int .i64) (wrap1 1 (by omega)))) (by decide) ?_
    refine HL.val (Val.assign rfl) (by decide) ?_
    refine HL.nil ?_
    exact ⟨fun ac wc ha hw => ⟨⟨1 + 1, by omega⟩, by dsimp only; omega, ha.subS ⟨rfl, rfl, rfl, rfl, trivial⟩, hw⟩⟩
  · refine HC.seq ?_
    refine HC.seq ?_
    refine HC.region ?_
    refine HL.val (Val.move rfl) (by decide) ?_
    refine HL.val (Val.lss rfl rfl) (by decide) ?_
    refine HL.nil ?_
    refine HQ.next ?_
    refine HC.no rfl ?_
    refine HC.exit ?_
    refine HQ.thenExit ?_
    refine HQ.thenExit ?_
    refine HQ.blockExit ?_
    refine HQ.next ?_
    refine HC.seq ?_
    refine HC.region ?_
    refine HL.val (Val.move rfl) (by decide) ?_
    refine HL.val ((Val.shrI rfl rfl (by decide) (by decide)).as (congrArg (Value.int .u64) (shr32 ((x0 ^^^ y0) ||| (x1 ^^^ y1))))) (by decide) ?_
    refine HL.val ((Val.convI rfl rfl Tryd.underlying133).as (congrArg (Value.int .u32) (u32a (or64 (xor64 hx0 hy0) (xor64 hx1 hy1))))) (by decide) ?_
    refine HL.val (Val.move rfl) (by decide) ?_
    refine HL.val ((Val.convI rfl rfl Tryd.underlying133).as (congrArg (Value.int .u32) (u32b ((x0 ^^^ y0) ||| (x1 ^^^ y1))))) (by decide) ?_
    refine HL.val ((Val.orI rfl rfl).as (congrArg (Value.int .u32) (u32_or_nat (((x0 ^^^ y0) ||| (x1 ^^^ y1)) / 4294967296) (((x0 ^^^ y0) ||| (x1 ^^^ y1)) % 4294967296) (by omega) (Nat.mod_lt _ (by decide))))) (by decide) ?_
    refine HL.val (Val.assign rfl) (by decide) ?_
    refine HL.nil ?_
    refine HQ.next ?_
    refine HC.seq ?_
    refine HC.region ?_
    refine HL.val (Val.move rfl) (by decide) ?_
    refine HL.val (Val.convI rfl rfl Tryd.underlying21) (by decide) ?_
    refine HL.val (Val.call en126 (ctI2 _) rfl) (by decide) ?_
    refine HL.val (((Val.eqlI rfl rfl).as (congrArg (fun z : Int => Value.bool (z == 1)) (i32_0 (Nat.or_lt_two_pow (n := 32) (by omega) (Nat.mod_lt _ (by decide)))))).as (congrArg Value.bool (one_if _))) (by decide) ?_
    refine HL.val (Val.assign rfl) (by decide) ?_
    refine HL.nil ?_
    refine HQ.next ?_
    refine HC.ret ?_
    exact HQ.ret1 rfl rfl (pure_end (congrArg Value.bool (decide_eq_decide.2 (hfin))))

theorem hiL (x : Nat) : mont x / 18446744073709551616 < 18446744073709551616 := Nat.div_lt_of_lt_mul (Nat.lt_trans (mont_lt x) (by decide +kernel))
theorem ctEq_any {bx ox bz oz x y : Nat} {w : World} (hx : FpAt w bx ox x) (px : x < pf) (hy : FpAt w bz oz y) (py : y < pf) :
    Calls Tryd.prog 106 #[.pointer (some ⟨bx, ox, none⟩), .pointer (some ⟨bz, oz, none⟩)] w fun e w' => e = .returned (.bool (decide (x = y))) ∧ Below w.heap.size w w' :=
  ct_any (Nat.mod_lt _ (by decide)) (Nat.mod_lt _ (by decide)) (hiL x) (hiL y) (fun w hs => (hx.sn hs rfl) 0 _ rfl) (fun w hs => (hy.sn hs rfl) 0 _ rfl) (fun w hs => (hx.sn hs rfl) 1 _ rfl) (fun w hs => (hy.sn hs rfl) 1 _ rfl) (by
    refine ⟨fun h => mont_inj px py ?_, fun h => by subst h; simp⟩
    have h1 := xor0 (or0 h).1
    have h2 := xor0 (or0 h).2
    omega)

theorem isZero_any {bx ox x : Nat} {w : World} (hx : FpAt w bx ox x) (px : x < pf) :
    Calls Tryd.prog 72 #[.pointer (some ⟨bx, ox, none⟩)] w fun e w' => e = .returned (.bool (decide (x = 0))) ∧ Below w.heap.size w w' := by
  refine calls_H (args := [.pointer (some ⟨bx, ox, none⟩)]) (noD) [] Tryd.func72 rfl (m := 7) rfl rfl (hold_nil _ _) ?_
  refine HC.seq ?_
  refine HC.region ?_
  refine HL.val (Val.assign rfl) (by decide) ?_
  refine HL.nil ?_
  refine HQ.next ?_
  refine HC.seq ?_
  refine HC.region ?_
  refine HL.val (Val.move rfl) (by decide) ?_
  refine HL.val (Val.build rfl built_nil) (by decide) ?_
  refine HL.new (New.box rfl) (by decide) ?_
  intro b1 hb1
  refine HL.val (Val.calls en106 (fun w hw => ctEq_any (hx.sn hw.sn rfl) px (by have h := RawAt.row (hw.at (i := 0) rfl); rw [FpAt, mont_zero]; exact h) zero_lt) rfl) (by decide) ?_
  refine HL.val (Val.assign rfl) (by decide) ?_
  refine HL.nil ?_
  refine HQ.next ?_
  refine HC.ret ?_
  exact HQ.ret1 rfl rfl (pure_end rfl)

theorem isEqual_any {bx ox bz oz x y : Nat} {w : World} (hx : FpAt w bx ox x) (px : x < pf) (hy : FpAt w bz oz y) (py : y < pf) :
    Calls Tryd.prog 74 #[.pointer (some ⟨bx, ox, none⟩), .pointer (some ⟨bz, oz, none⟩)] w fun e w' => e = .returned (.bool (decide (x = y))) ∧ Below w.heap.size w w' := by
  refine calls_H (args := [.pointer (some ⟨bx, ox, none⟩), .pointer (some ⟨bz, oz, none⟩)]) (noD) [] Tryd.func74 rfl (m := 8) rfl rfl (hold_nil _ _) ?_
  refine HC.seq ?_
  refine HC.region ?_
  refine HL.val (Val.assign rfl) (by decide) ?_
  refine HL.nil ?_
  refine HQ.next ?_
  refine HC.seq ?_
  refine HC.region ?_
  refine HL.val (Val.move rfl) (by decide) ?_
  refine HL.val (Val.move rfl) (by decide) ?_
  refine HL.val (Val.calls en106 (fun w hw => ctEq_any (hx.sn hw.sn rfl) px (hy.sn hw.sn rfl) py) rfl) (by decide) ?_
  refine HL.val (Val.assign rfl) (by decide) ?_
  refine HL.nil ?_
  refine HQ.next ?_
  refine HC.ret ?_
  exact HQ.ret1 rfl rfl (pure_end rfl)

theorem rt_0 : rt 0 = 1 := by decide +kernel
theorem isOne_any {bx ox x : Nat} {w : World} (ht : RT w) (hx : FpAt w bx ox x) (px : x < pf) :
    Calls Tryd.prog 73 #[.pointer (some ⟨bx, ox, none⟩)] w fun e w' => e = .returned (.bool (decide (x = rt 0))) ∧ Below w.heap.size w w' := by
  refine calls_H (args := [.pointer (some ⟨bx, ox, none⟩)]) (noD) [] Tryd.func73 rfl (m := 8) rfl rfl (hold_nil _ _) ?_
  refine HC.seq ?_
  refine HC.region ?_
  refine HL.val (Val.assign rfl) (by decide) ?_
  refine HL.nil ?_
  refine HQ.next ?_
  refine HC.seq ?_
  refine HC.region ?_
  refine HL.val (Val.ixAddrQ (0 * 2) (i := 0) (m := 67) (s := 2) (e := 81) rfl rfl Tryd.underlying114 (by kernel_rfl) (by decide) (by omega)) (by decide) ?_
  refine HL.val (Val.load_cells (rawC (mont (rt 0))) rfl (fun w hw => ((ht.sn hw.sn rfl) 0 (by decide)).cells) Tryd.underlying81 rfl (by kernel_rfl)) (by decide) ?_
  refine HL.new (New.alloc al81) (by decide) ?_
  intro b1 hb1
  refine HL.put 0 rfl (Put.row rfl rfl (by kernel_rfl) (szR _ _) (rawC_one _)) (.inl hb1) ?_
  simp only [List.set_cons_zero]
  refine HL.nil ?_
  refine HQ.next ?_
  refine HC.seq ?_
  refine HC.region ?_
  refine HL.val (Val.move rfl) (by decide) ?_
  refine HL.val (Val.calls en106 (fun w hw => ctEq_any (hx.sn hw.sn rfl) px (RawAt.row (hw.at (i := 0) rfl)) (rt_lt (by decide))) rfl) (by decide) ?_
  refine HL.val (Val.assign rfl) (by decide) ?_
  refine HL.nil ?_
  refine HQ.next ?_
  refine HC.ret ?_
  exact HQ.ret1 rfl rfl (pure_end rfl)

theorem setOne_any {b o T : Nat} {cs : Array Value} {w : World} (ht : RT w) (h0 : w.heap[b]? = some (.cells cs T (0, 0))) (hb : 1 ≠ b) (ho : o + nl ≤ cs.size) :
    Calls Tryd.prog 89 #[.pointer (some ⟨b, o, none⟩)] w fun e w' => e = .returned (.tuple #[]) ∧ Hold (fun k => k == b) w [(b, .cells (putC cs o (rt 0)) T (0, 0))] w' := by
  refine calls_H (args := [.pointer (some ⟨b, o, none⟩)]) (fun k => k == b) [(b, .cells cs T (0, 0))] Tryd.func89 rfl (m := 6) rfl rfl (hold_one h0) ?_
  refine HC.region ?_
  refine HL.val (Val.move rfl) (by decide) ?_
  refine HL.val (Val.ixAddrQ (0 * 2) (i := 0) (m := 67) (s := 2) (e := 81) rfl rfl Tryd.underlying114 (by kernel_rfl) (by decide) (by omega)) (by decide) ?_
  refine HL.val (Val.load_cells (rawC (mont (rt 0))) rfl (fun w hw => ((ht.sn hw.sn (beq_false_of_ne hb)) 0 (by decide)).cells) Tryd.underlying81 rfl (by kernel_rfl)) (by decide) ?_
  refine HL.val (Val.nilCheck rfl) (by decide) ?_
  refine HL.put 0 rfl (Put.at rfl rfl (by kernel_rfl) ho) (ownB b) ?_
  simp only [List.set_cons_zero]
  refine HL.nil ?_
  exact HQ.end0 rfl (fun w hw => ⟨rfl, hw⟩)

theorem gtrN (m i : Nat) : decide ((m : Int) < (i : Int)) = decide (m < i) := by
  rw [Bool.eq_iff_iff]; simp

theorem setRoot_any {b o T i : Nat} {cs : Array Value} {w : World} (ht : RT w) (h0 : w.heap[b]? = some (.cells cs T (0, 0))) (hb : 1 ≠ b) (ho : o + nl ≤ cs.size) (hi : i < 67) :
    Calls Tryd.prog 68 #[.pointer (some ⟨b, o, none⟩), .int .u64 (i : Int)] w fun e w' => e = .returned (.tuple #[]) ∧ Hold (fun k => k == b) w [(b, .cells (putC cs o (rt i)) T (0, 0))] w' := by
  refine calls_H (args := [.pointer (some ⟨b, o, none⟩), .int .u64 (i : Int)]) (fun k => k == b) [(b, .cells cs T (0, 0))] Tryd.func68 rfl (m := 12) rfl rfl (hold_one h0) ?_
  refine HC.seq ?_
  refine HC.seq ?_
  refine HC.region ?_
  refine HL.val (Val.move rfl) (by decide) ?_
  refine HL.val ((Val.gtr rfl rfl).as (congrArg Value.bool ((gtrN 66 i).trans (decide_eq_false (by omega))))) (by decide) ?_
  refine HL.nil ?_
  refine HQ.next ?_
  refine HC.no rfl ?_
  refine HC.skip ?_
  refine HQ.next ?_
  refine HC.region ?_
  refine HL.val (Val.move rfl) (by decide) ?_
  refine HL.val (Val.move rfl) (by decide) ?_
  refine HL.val (Val.ixAddrQ (i * 2) (i := i) (m := 67) (s := 2) (e := 81) rfl rfl Tryd.underlying114 (by kernel_rfl) hi (by omega)) (by decide) ?_
  refine HL.val (Val.load_cells (rawC (mont (rt i))) rfl (fun w hw => ((ht.sn hw.sn (beq_false_of_ne hb)) i hi).cells) Tryd.underlying81 rfl (by kernel_rfl)) (by decide) ?_
  refine HL.val (Val.nilCheck rfl) (by decide) ?_
  refine HL.put 0 rfl (Put.at rfl rfl (by kernel_rfl) ho) (ownB b) ?_
  simp only [List.set_cons_zero]
  refine HL.nil ?_
  exact HQ.end0 rfl (fun w hw => ⟨rfl, hw⟩)
end Go.Proofs.YtgdfdkpkhjbibaaDoor
