/-
  Bits turned round, counted, the next power of two (written by genbb.py).
-/
import Derived.Test.YtgdfdkpkhjbibaaDoorBt
namespace Go.Proofs.YtgdfdkpkhjbibaaDoor
open Go.RowKit
theorem shrL {k : Int} (x j m : Nat) (hk : k = (j : Int)) (h : 2 ^ j = m) : (x : Int) / 2 ^ k.toNat = ((x / m : Nat) : Int) := shrC x j m hk h
theorem shlL {k : Int} (x j m : Nat) (hk : k = (j : Int)) (h : 2 ^ j = m) : IntKind.u64.wrap ((x : Int) * 2 ^ k.toNat) = ((x * m % 18446744073709551616 : Nat) : Int) := by
  subst hk h
  rw [Int.toNat_natCast, IntKind.wrap_u64]
  have e : (x : Int) * 2 ^ j = ((x * 2 ^ j : Nat) : Int) := by norm_cast
  rw [e]; omega
theorem addL {Y : Int} (x y : Nat) (hY : Y = y) : IntKind.u64.wrap ((x : Int) + Y) = (((x + y) % 18446744073709551616 : Nat) : Int) := by
  subst hY; rw [IntKind.wrap_u64]; omega
theorem subL {X : Int} (x y : Nat) (hX : X = x) (h : y ≤ x) (hx : x < 18446744073709551616) : IntKind.u64.wrap (X - (y : Int)) = ((x - y : Nat) : Int) := by
  subst hX; rw [IntKind.wrap_u64]; omega
theorem mulL {Y : Int} (x y : Nat) (hY : Y = y) : IntKind.u64.wrap ((x : Int) * Y) = ((x * y % 18446744073709551616 : Nat) : Int) := by
  subst hY; rw [IntKind.wrap_u64, ← Int.natCast_mul]; omega
theorem negL (x : Nat) (h : x < 18446744073709551616) : IntKind.u64.wrap (-(x : Int)) = (((18446744073709551616 - x) % 18446744073709551616 : Nat) : Int) := by
  rw [IntKind.wrap_u64]; omega
theorem andL {Y : Int} (x y : Nat) (hY : Y = y) (hx : x < 18446744073709551616) (hy : y < 18446744073709551616) : bits .and .u64 (x : Int) Y = ((x &&& y : Nat) : Int) := by
  subst hY; exact bits_and_u64_nat x y hx hy
theorem orL {Y : Int} (x y : Nat) (hY : Y = y) (hx : x < 18446744073709551616) (hy : y < 18446744073709551616) : bits .or .u64 (x : Int) Y = ((x ||| y : Nat) : Int) := by
  subst hY; exact bits_or_u64_nat x y hx hy
theorem div_lt64 {x m : Nat} (h : x < 18446744073709551616) : x / m < 18446744073709551616 := Nat.lt_of_le_of_lt (Nat.div_le_self _ _) h
theorem and_lt64 {x y : Nat} (h : y < 18446744073709551616) : x &&& y < 18446744073709551616 := Nat.lt_of_le_of_lt Nat.and_le_right h
theorem or_lt64 {x y : Nat} (hx : x < 18446744073709551616) (hy : y < 18446744073709551616) : x ||| y < 18446744073709551616 := Nat.or_lt_two_pow (n := 64) hx hy
theorem mod_lt64 (x : Nat) : x % 18446744073709551616 < 18446744073709551616 := Nat.mod_lt _ (by decide)

def rb1 (x : Nat) : Nat := (((((x / 256)) &&& 71777214294589695)) ||| ((((x &&& 71777214294589695)) * 256 % 18446744073709551616)))
theorem rb1_lt (x : Nat) (_hx : x < 18446744073709551616) : rb1 x < 18446744073709551616 := (or_lt64 (and_lt64 (by decide)) (mod_lt64 _))
def rb2 (x : Nat) : Nat := (((((((rb1 x)) / 65536)) &&& 281470681808895)) ||| ((((((rb1 x)) &&& 281470681808895)) * 65536 % 18446744073709551616)))
theorem rb2_lt (x : Nat) (_hx : x < 18446744073709551616) : rb2 x < 18446744073709551616 := (or_lt64 (and_lt64 (by decide)) (mod_lt64 _))
def rb (x : Nat) : Nat := (((((rb2 x)) / 4294967296)) ||| ((((rb2 x)) * 4294967296 % 18446744073709551616)))
theorem rb_lt (x : Nat) (hx : x < 18446744073709551616) : rb x < 18446744073709551616 := (or_lt64 (div_lt64 (rb2_lt x hx)) (mod_lt64 _))
set_option maxRecDepth 100000 in
theorem rb64_p {x : Nat} (hx : x < 18446744073709551616) : Pure Tryd.prog 146 #[.int .u64 (x : Int)] (.int .u64 ((rb x : Nat) : Int)) := by
  intro w
  refine calls_H (args := [.int .u64 (x : Int)]) (noD) [] Tryd.func146 rfl (m := 22) rfl rfl (hold_nil _ _) ?_
  refine HC.seq ?_
  refine HC.region ?_
  refine HL.val (Val.assign rfl) (by decide) ?_
  refine HL.nil ?_
  refine HQ.next ?_
  refine HC.seq ?_
  refine HC.region ?_
  refine HL.val (Val.move rfl) (by decide) ?_
  refine HL.val ((Val.shrI rfl rfl (by decide) (by decide)).as (congrArg (Value.int .u64) (shrL x 8 256 rfl (by decide)))) (by decide) ?_
  refine HL.val ((Val.andI rfl rfl).as (congrArg (Value.int .u64) (andL ((x / 256)) 71777214294589695 rfl (div_lt64 hx) (by decide)))) (by decide) ?_
  refine HL.val (Val.move rfl) (by decide) ?_
  refine HL.val ((Val.andI rfl rfl).as (congrArg (Value.int .u64) (andL x 71777214294589695 rfl hx (by decide)))) (by decide) ?_
  refine HL.val ((Val.shlI rfl rfl (by decide) (by decide)).as (congrArg (Value.int .u64) (shlL ((x &&& 71777214294589695)) 8 256 rfl (by decide)))) (by decide) ?_
  refine HL.val ((Val.orI rfl rfl).as (congrArg (Value.int .u64) (orL ((((x / 256)) &&& 71777214294589695)) ((((x &&& 71777214294589695)) * 256 % 18446744073709551616)) rfl (and_lt64 (by decide)) (mod_lt64 _)))) (by decide) ?_
  refine HL.val ((Val.assign rfl).as (v := .int .u64 ((rb1 x : Nat) : Int)) rfl) (by decide) ?_
  refine HL.nil ?_
  refine HQ.next ?_
  refine HC.seq ?_
  refine HC.region ?_
  refine HL.val (Val.move rfl) (by decide) ?_
  refine HL.val ((Val.shrI rfl rfl (by decide) (by decide)).as (congrArg (Value.int .u64) (shrL ((rb1 x)) 16 65536 rfl (by decide)))) (by decide) ?_
  refine HL.val ((Val.andI rfl rfl).as (congrArg (Value.int .u64) (andL ((((rb1 x)) / 65536)) 281470681808895 rfl (div_lt64 (rb1_lt x hx)) (by decide)))) (by decide) ?_
  refine HL.val (Val.move rfl) (by decide) ?_
  refine HL.val ((Val.andI rfl rfl).as (congrArg (Value.int .u64) (andL ((rb1 x)) 281470681808895 rfl (rb1_lt x hx) (by decide)))) (by decide) ?_
  refine HL.val ((Val.shlI rfl rfl (by decide) (by decide)).as (congrArg (Value.int .u64) (shlL ((((rb1 x)) &&& 281470681808895)) 16 65536 rfl (by decide)))) (by decide) ?_
  refine HL.val ((Val.orI rfl rfl).as (congrArg (Value.int .u64) (orL ((((((rb1 x)) / 65536)) &&& 281470681808895)) ((((((rb1 x)) &&& 281470681808895)) * 65536 % 18446744073709551616)) rfl (and_lt64 (by decide)) (mod_lt64 _)))) (by decide) ?_
  refine HL.val ((Val.assign rfl).as (v := .int .u64 ((rb2 x : Nat) : Int)) rfl) (by decide) ?_
  refine HL.nil ?_
  refine HQ.next ?_
  refine HC.seq ?_
  refine HC.region ?_
  refine HL.val (Val.move rfl) (by decide) ?_
  refine HL.val ((Val.shrI rfl rfl (by decide) (by decide)).as (congrArg (Value.int .u64) (shrL ((rb2 x)) 32 4294967296 rfl (by decide)))) (by decide) ?_
  refine HL.val (Val.move rfl) (by decide) ?_
  refine HL.val ((Val.shlI rfl rfl (by decide) (by decide)).as (congrArg (Value.int .u64) (shlL ((rb2 x)) 32 4294967296 rfl (by decide)))) (by decide) ?_
  refine HL.val ((Val.orI rfl rfl).as (congrArg (Value.int .u64) (orL ((((rb2 x)) / 4294967296)) ((((rb2 x)) * 4294967296 % 18446744073709551616)) rfl (div_lt64 (rb2_lt x hx)) (mod_lt64 _)))) (by decide) ?_
  refine HL.val (Val.assign rfl) (by decide) ?_
  refine HL.nil ?_
  refine HQ.next ?_
  refine HC.ret ?_
  exact HQ.ret1 rfl rfl (pure_end rfl)

def rv1 (x : Nat) : Nat := (((((x / 2)) &&& 6148914691236517205)) ||| ((((x &&& 6148914691236517205)) * 2 % 18446744073709551616)))
theorem rv1_lt (x : Nat) (_hx : x < 18446744073709551616) : rv1 x < 18446744073709551616 := (or_lt64 (and_lt64 (by decide)) (mod_lt64 _))
def rv2 (x : Nat) : Nat := (((((((rv1 x)) / 4)) &&& 3689348814741910323)) ||| ((((((rv1 x)) &&& 3689348814741910323)) * 4 % 18446744073709551616)))
theorem rv2_lt (x : Nat) (_hx : x < 18446744073709551616) : rv2 x < 18446744073709551616 := (or_lt64 (and_lt64 (by decide)) (mod_lt64 _))
def rv3 (x : Nat) : Nat := (((((((rv2 x)) / 16)) &&& 1085102592571150095)) ||| ((((((rv2 x)) &&& 1085102592571150095)) * 16 % 18446744073709551616)))
theorem rv3_lt (x : Nat) (_hx : x < 18446744073709551616) : rv3 x < 18446744073709551616 := (or_lt64 (and_lt64 (by decide)) (mod_lt64 _))
def rv (x : Nat) : Nat := (rb ((rv3 x)))
theorem rv_lt (x : Nat) (hx : x < 18446744073709551616) : rv x < 18446744073709551616 := (rb_lt ((rv3 x)) (rv3_lt x hx))
set_option maxRecDepth 100000 in
theorem rv64_p {x : Nat} (hx : x < 18446744073709551616) : Pure Tryd.prog 143 #[.int .u64 (x : Int)] (.int .u64 ((rv x : Nat) : Int)) := by
  intro w
  refine calls_H (args := [.int .u64 (x : Int)]) (noD) [] Tryd.func143 rfl (m := 26) rfl rfl (hold_nil _ _) ?_
  refine HC.seq ?_
  refine HC.region ?_
  refine HL.val (Val.assign rfl) (by decide) ?_
  refine HL.nil ?_
  refine HQ.next ?_
  refine HC.seq ?_
  refine HC.region ?_
  refine HL.val (Val.move rfl) (by decide) ?_
  refine HL.val ((Val.shrI rfl rfl (by decide) (by decide)).as (congrArg (Value.int .u64) (shrL x 1 2 rfl (by decide)))) (by decide) ?_
  refine HL.val ((Val.andI rfl rfl).as (congrArg (Value.int .u64) (andL ((x / 2)) 6148914691236517205 rfl (div_lt64 hx) (by decide)))) (by decide) ?_
  refine HL.val (Val.move rfl) (by decide) ?_
  refine HL.val ((Val.andI rfl rfl).as (congrArg (Value.int .u64) (andL x 6148914691236517205 rfl hx (by decide)))) (by decide) ?_
  refine HL.val ((Val.shlI rfl rfl (by decide) (by decide)).as (congrArg (Value.int .u64) (shlL ((x &&& 6148914691236517205)) 1 2 rfl (by decide)))) (by decide) ?_
  refine HL.val ((Val.orI rfl rfl).as (congrArg (Value.int .u64) (orL ((((x / 2)) &&& 6148914691236517205)) ((((x &&& 6148914691236517205)) * 2 % 18446744073709551616)) rfl (and_lt64 (by decide)) (mod_lt64 _)))) (by decide) ?_
  refine HL.val ((Val.assign rfl).as (v := .int .u64 ((rv1 x : Nat) : Int)) rfl) (by decide) ?_
  refine HL.nil ?_
  refine HQ.next ?_
  refine HC.seq ?_
  refine HC.region ?_
  refine HL.val (Val.move rfl) (by decide) ?_
  refine HL.val ((Val.shrI rfl rfl (by decide) (by decide)).as (congrArg (Value.int .u64) (shrL ((rv1 x)) 2 4 rfl (by decide)))) (by decide) ?_
  refine HL.val ((Val.andI rfl rfl).as (congrArg (Value.int .u64) (andL ((((rv1 x)) / 4)) 3689348814741910323 rfl (div_lt64 (rv1_lt x hx)) (by decide)))) (by decide) ?_
  refine HL.val (Val.move rfl) (by decide) ?_
  refine HL.val ((Val.andI rfl rfl).as (congrArg (Value.int .u64) (andL ((rv1 x)) 3689348814741910323 rfl (rv1_lt x hx) (by decide)))) (by decide) ?_
  refine HL.val ((Val.shlI rfl rfl (by decide) (by decide)).as (congrArg (Value.int .u64) (shlL ((((rv1 x)) &&& 3689348814741910323)) 2 4 rfl (by decide)))) (by decide) ?_
  refine HL.val ((Val.orI rfl rfl).as (congrArg (Value.int .u64) (orL ((((((rv1 x)) / 4)) &&& 3689348814741910323)) ((((((rv1 x)) &&& 3689348814741910323)) * 4 % 18446744073709551616)) rfl (and_lt64 (by decide)) (mod_lt64 _)))) (by decide) ?_
  refine HL.val ((Val.assign rfl).as (v := .int .u64 ((rv2 x : Nat) : Int)) rfl) (by decide) ?_
  refine HL.nil ?_
  refine HQ.next ?_
  refine HC.seq ?_
  refine HC.region ?_
  refine HL.val (Val.move rfl) (by decide) ?_
  refine HL.val ((Val.shrI rfl rfl (by decide) (by decide)).as (congrArg (Value.int .u64) (shrL ((rv2 x)) 4 16 rfl (by decide)))) (by decide) ?_
  refine HL.val ((Val.andI rfl rfl).as (congrArg (Value.int .u64) (andL ((((rv2 x)) / 16)) 1085102592571150095 rfl (div_lt64 (rv2_lt x hx)) (by decide)))) (by decide) ?_
  refine HL.val (Val.move rfl) (by decide) ?_
  refine HL.val ((Val.andI rfl rfl).as (congrArg (Value.int .u64) (andL ((rv2 x)) 1085102592571150095 rfl (rv2_lt x hx) (by decide)))) (by decide) ?_
  refine HL.val ((Val.shlI rfl rfl (by decide) (by decide)).as (congrArg (Value.int .u64) (shlL ((((rv2 x)) &&& 1085102592571150095)) 4 16 rfl (by decide)))) (by decide) ?_
  refine HL.val ((Val.orI rfl rfl).as (congrArg (Value.int .u64) (orL ((((((rv2 x)) / 16)) &&& 1085102592571150095)) ((((((rv2 x)) &&& 1085102592571150095)) * 16 % 18446744073709551616)) rfl (and_lt64 (by decide)) (mod_lt64 _)))) (by decide) ?_
  refine HL.val ((Val.assign rfl).as (v := .int .u64 ((rv3 x : Nat) : Int)) rfl) (by decide) ?_
  refine HL.nil ?_
  refine HQ.next ?_
  refine HC.seq ?_
  refine HC.region ?_
  refine HL.val (Val.move rfl) (by decide) ?_
  refine HL.val (Val.call en146 (rb64_p (x := (rv3 x)) (rv3_lt x hx)) rfl) (by decide) ?_
  refine HL.val (Val.assign rfl) (by decide) ?_
  refine HL.nil ?_
  refine HQ.next ?_
  refine HC.ret ?_
  exact HQ.ret1 rfl rfl (pure_end rfl)

def rw_ (x : Nat) : Nat := (rv x)
theorem rw__lt (x : Nat) (hx : x < 18446744073709551616) : rw_ x < 18446744073709551616 := (rv_lt x hx)
set_option maxRecDepth 100000 in
theorem rvw_p {x : Nat} (hx : x < 18446744073709551616) : Pure Tryd.prog 134 #[.int .u64 (x : Int)] (.int .u64 ((rw_ x : Nat) : Int)) := by
  intro w
  refine calls_H (args := [.int .u64 (x : Int)]) (noD) [] Tryd.func134 rfl (m := 9) rfl rfl (hold_nil _ _) ?_
  refine HC.seq ?_
  refine HC.region ?_
  refine HL.val (Val.assign rfl) (by decide) ?_
  refine HL.nil ?_
  refine HQ.next ?_
  refine HC.seq ?_
  refine HC.no rfl ?_
  refine HC.skip ?_
  refine HQ.next ?_
  refine HC.seq ?_
  refine HC.region ?_
  refine HL.val (Val.move rfl) (by decide) ?_
  refine HL.val (Val.call en143 (rv64_p (x := x) hx) rfl) (by decide) ?_
  refine HL.val (Val.assign rfl) (by decide) ?_
  refine HL.nil ?_
  refine HQ.next ?_
  refine HC.ret ?_
  exact HQ.ret1 rfl rfl (pure_end rfl)

set_option maxRecDepth 100000 in
theorem rev_all : ∀ m, m < 7 → ∀ x, x < 2 ^ m → rw_ x / 2 ^ (64 - m) = rev m x := by decide +kernel
theorem rev_eq {m x : Nat} (hm : m < 7) (h : x < 2 ^ m) : rw_ x / 2 ^ (64 - m) = rev m x := rev_all m hm x h
theorem bitRev_p {x m : Nat} (hm : m < 7) (h : x < 2 ^ m) : Pure Tryd.prog 123 #[.int .u64 (x : Int), .int .u64 (m : Int)] (.int .u64 ((rev m x : Nat) : Int)) := by
  intro w
  have hx : x < 18446744073709551616 := Nat.lt_of_lt_of_le h (Nat.le_trans (Nat.pow_le_pow_right (by decide) (show m ≤ 64 by omega)) (by decide))
  refine calls_H (args := [.int .u64 (x : Int), .int .u64 (m : Int)]) (noD) [] Tryd.func123 rfl (m := 10) rfl rfl (hold_nil _ _) ?_
  refine HC.seq ?_
  refine HC.region ?_
  refine HL.val (Val.assign rfl) (by decide) ?_
  refine HL.nil ?_
  refine HQ.next ?_
  refine HC.seq ?_
  refine HC.region ?_
  refine HL.val (Val.move rfl) (by decide) ?_
  refine HL.val (Val.call en134 (rvw_p (x := x) hx) rfl) (by decide) ?_
  refine HL.val (Val.move rfl) (by decide) ?_
  refine HL.val ((Val.subI rfl rfl).as (congrArg (Value.int .u64) (subL 64 m rfl (by omega) (by decide)))) (by decide) ?_
  refine HL.val ((Val.shrI rfl rfl (Int.natCast_nonneg _) (show ((64 - m : Nat) : Int) ≤ 64 by omega)).as (congrArg (Value.int .u64) (shrN (rw_ x) (64 - m)))) (by decide) ?_
  refine HL.val (Val.assign rfl) (by decide) ?_
  refine HL.nil ?_
  refine HQ.next ?_
  refine HC.ret ?_
  exact HQ.ret1 rfl rfl (pure_end (by rw [rev_eq hm h]))

def oc_1 (x : Nat) : Nat := ((((((x / 2)) &&& 6148914691236517205)) + ((x &&& 6148914691236517205))) % 18446744073709551616)
theorem oc_1_lt (x : Nat) (_hx : x < 18446744073709551616) : oc_1 x < 18446744073709551616 := (mod_lt64 _)
def oc_2 (x : Nat) : Nat := ((((((((oc_1 x)) / 4)) &&& 3689348814741910323)) + ((((oc_1 x)) &&& 3689348814741910323))) % 18446744073709551616)
theorem oc_2_lt (x : Nat) (_hx : x < 18446744073709551616) : oc_2 x < 18446744073709551616 := (mod_lt64 _)
def oc_3 (x : Nat) : Nat := ((((((((oc_2 x)) / 16)) + ((oc_2 x))) % 18446744073709551616)) &&& 1085102592571150095)
theorem oc_3_lt (x : Nat) (_hx : x < 18446744073709551616) : oc_3 x < 18446744073709551616 := (and_lt64 (by decide))
def oc_4 (x : Nat) : Nat := ((((oc_3 x)) + ((((oc_3 x)) / 256))) % 18446744073709551616)
theorem oc_4_lt (x : Nat) (_hx : x < 18446744073709551616) : oc_4 x < 18446744073709551616 := (mod_lt64 _)
def oc_5 (x : Nat) : Nat := ((((oc_4 x)) + ((((oc_4 x)) / 65536))) % 18446744073709551616)
theorem oc_5_lt (x : Nat) (_hx : x < 18446744073709551616) : oc_5 x < 18446744073709551616 := (mod_lt64 _)
def oc_6 (x : Nat) : Nat := ((((oc_5 x)) + ((((oc_5 x)) / 4294967296))) % 18446744073709551616)
theorem oc_6_lt (x : Nat) (_hx : x < 18446744073709551616) : oc_6 x < 18446744073709551616 := (mod_lt64 _)
def oc (x : Nat) : Nat := oc_6 x
set_option maxRecDepth 100000 in
theorem oc_small : ∀ x, x < 129 → oc x < 64 := by decide +kernel
theorem ocI {x : Nat} (h : x < 129) : IntKind.i64.wrap ((oc x : Nat) : Int) = ((oc x : Nat) : Int) := wrapI8 (Nat.le_of_lt (oc_small x h))
theorem and127 : ∀ v, v < 64 → bits .and .i64 ((v : Nat) : Int) 127 = ((v : Nat) : Int) := by decide +kernel
theorem ocA {x : Nat} (h : x < 129) : bits .and .i64 ((oc x : Nat) : Int) 127 = ((oc x : Nat) : Int) := and127 _ (oc_small x h)
set_option maxRecDepth 100000 in
theorem oc64_p {x : Nat} (hs : x < 129) : Pure Tryd.prog 138 #[.int .u64 (x : Int)] (.int .i64 ((oc x : Nat) : Int)) := by
  intro w
  have hx : x < 18446744073709551616 := by omega
  refine calls_H (args := [.int .u64 (x : Int)]) (noD) [] Tryd.func138 rfl (m := 35) rfl rfl (hold_nil _ _) ?_
  refine HC.seq ?_
  refine HC.region ?_
  refine HL.val (Val.assign rfl) (by decide) ?_
  refine HL.nil ?_
  refine HQ.next ?_
  refine HC.seq ?_
  refine HC.region ?_
  refine HL.val (Val.move rfl) (by decide) ?_
  refine HL.val ((Val.shrI rfl rfl (by decide) (by decide)).as (congrArg (Value.int .u64) (shrL x 1 2 rfl (by decide)))) (by decide) ?_
  refine HL.val ((Val.andI rfl rfl).as (congrArg (Value.int .u64) (andL ((x / 2)) 6148914691236517205 rfl (div_lt64 hx) (by decide)))) (by decide) ?_
  refine HL.val (Val.move rfl) (by decide) ?_
  refine HL.val ((Val.andI rfl rfl).as (congrArg (Value.int .u64) (andL x 6148914691236517205 rfl hx (by decide)))) (by decide) ?_
  refine HL.val ((Val.addI rfl rfl).as (congrArg (Value.int .u64) (addL ((((x / 2)) &&& 6148914691236517205)) ((x &&& 6148914691236517205)) rfl))) (by decide) ?_
  refine HL.val ((Val.assign rfl).as (v := .int .u64 ((oc_1 x : Nat) : Int)) rfl) (by decide) ?_
  refine HL.nil ?_
  refine HQ.next ?_
  refine HC.seq ?_
  refine HC.region ?_
  refine HL.val (Val.move rfl) (by decide) ?_
  refine HL.val ((Val.shrI rfl rfl (by decide) (by decide)).as (congrArg (Value.int .u64) (shrL ((oc_1 x)) 2 4 rfl (by decide)))) (by decide) ?_
  refine HL.val ((Val.andI rfl rfl).as (congrArg (Value.int .u64) (andL ((((oc_1 x)) / 4)) 3689348814741910323 rfl (div_lt64 (oc_1_lt x hx)) (by decide)))) (by decide) ?_
  refine HL.val (Val.move rfl) (by decide) ?_
  refine HL.val ((Val.andI rfl rfl).as (congrArg (Value.int .u64) (andL ((oc_1 x)) 3689348814741910323 rfl (oc_1_lt x hx) (by decide)))) (by decide) ?_
  refine HL.val ((Val.addI rfl rfl).as (congrArg (Value.int .u64) (addL ((((((oc_1 x)) / 4)) &&& 3689348814741910323)) ((((oc_1 x)) &&& 3689348814741910323)) rfl))) (by decide) ?_
  refine HL.val ((Val.assign rfl).as (v := .int .u64 ((oc_2 x : Nat) : Int)) rfl) (by decide) ?_
  refine HL.nil ?_
  refine HQ.next ?_
  refine HC.seq ?_
  refine HC.region ?_
  refine HL.val (Val.move rfl) (by decide) ?_
  refine HL.val ((Val.shrI rfl rfl (by decide) (by decide)).as (congrArg (Value.int .u64) (shrL ((oc_2 x)) 4 16 rfl (by decide)))) (by decide) ?_
  refine HL.val (Val.move rfl) (by decide) ?_
  refine HL.val ((Val.addI rfl rfl).as (congrArg (Value.int .u64) (addL ((((oc_2 x)) / 16)) ((oc_2 x)) rfl))) (by decide) ?_
  refine HL.val ((Val.andI rfl rfl).as (congrArg (Value.int .u64) (andL (((((((oc_2 x)) / 16)) + ((oc_2 x))) % 18446744073709551616)) 1085102592571150095 rfl (mod_lt64 _) (by decide)))) (by decide) ?_
  refine HL.val ((Val.assign rfl).as (v := .int .u64 ((oc_3 x : Nat) : Int)) rfl) (by decide) ?_
  refine HL.nil ?_
  refine HQ.next ?_
  refine HC.seq ?_
  refine HC.region ?_
  refine HL.val (Val.move rfl) (by decide) ?_
  refine HL.val (Val.move rfl) (by decide) ?_
  refine HL.val ((Val.shrI rfl rfl (by decide) (by decide)).as (congrArg (Value.int .u64) (shrL ((oc_3 x)) 8 256 rfl (by decide)))) (by decide) ?_
  refine HL.val ((Val.addI rfl rfl).as (congrArg (Value.int .u64) (addL ((oc_3 x)) ((((oc_3 x)) / 256)) rfl))) (by decide) ?_
  refine HL.val ((Val.assign rfl).as (v := .int .u64 ((oc_4 x : Nat) : Int)) rfl) (by decide) ?_
  refine HL.nil ?_
  refine HQ.next ?_
  refine HC.seq ?_
  refine HC.region ?_
  refine HL.val (Val.move rfl) (by decide) ?_
  refine HL.val (Val.move rfl) (by decide) ?_
  refine HL.val ((Val.shrI rfl rfl (by decide) (by decide)).as (congrArg (Value.int .u64) (shrL ((oc_4 x)) 16 65536 rfl (by decide)))) (by decide) ?_
  refine HL.val ((Val.addI rfl rfl).as (congrArg (Value.int .u64) (addL ((oc_4 x)) ((((oc_4 x)) / 65536)) rfl))) (by decide) ?_
  refine HL.val ((Val.assign rfl).as (v := .int .u64 ((oc_5 x : Nat) : Int)) rfl) (by decide) ?_
  refine HL.nil ?_
  refine HQ.next ?_
  refine HC.seq ?_
  refine HC.region ?_
  refine HL.val (Val.move rfl) (by decide) ?_
  refine HL.val (Val.move rfl) (by decide) ?_
  refine HL.val ((Val.shrI rfl rfl (by decide) (by decide)).as (congrArg (Value.int .u64) (shrL ((oc_5 x)) 32 4294967296 rfl (by decide)))) (by decide) ?_
  refine HL.val ((Val.addI rfl rfl).as (congrArg (Value.int .u64) (addL ((oc_5 x)) ((((oc_5 x)) / 4294967296)) rfl))) (by decide) ?_
  refine HL.val ((Val.assign rfl).as (v := .int .u64 ((oc_6 x : Nat) : Int)) rfl) (by decide) ?_
  refine HL.nil ?_
  refine HQ.next ?_
  refine HC.seq ?_
  refine HC.region ?_
  refine HL.val (Val.move rfl) (by decide) ?_
  refine HL.val ((Val.convI rfl rfl Tryd.underlying3).as (v := .int .i64 ((oc x : Nat) : Int)) (congrArg (Value.int .i64) (ocI hs))) (by decide) ?_
  refine HL.val ((Val.andI rfl rfl).as (congrArg (Value.int .i64) (ocA hs))) (by decide) ?_
  refine HL.val (Val.assign rfl) (by decide) ?_
  refine HL.nil ?_
  refine HQ.next ?_
  refine HC.ret ?_
  exact HQ.ret1 rfl rfl (pure_end rfl)

theorem ocw_p {x : Nat} (hs : x < 129) : Pure Tryd.prog 131 #[.int .u64 (x : Int)] (.int .i64 ((oc x : Nat) : Int)) := by
  intro w
  refine calls_H (args := [.int .u64 (x : Int)]) (noD) [] Tryd.func131 rfl (m := 8) rfl rfl (hold_nil _ _) ?_
  refine HC.seq ?_
  refine HC.region ?_
  refine HL.val (Val.assign rfl) (by decide) ?_
  refine HL.nil ?_
  refine HQ.next ?_
  refine HC.seq ?_
  refine HC.no rfl ?_
  refine HC.skip ?_
  refine HQ.next ?_
  refine HC.seq ?_
  refine HC.region ?_
  refine HL.val (Val.move rfl) (by decide) ?_
  refine HL.val (Val.call en138 (oc64_p hs) rfl) (by decide) ?_
  refine HL.val (Val.assign rfl) (by decide) ?_
  refine HL.nil ?_
  refine HQ.next ?_
  refine HC.ret ?_
  exact HQ.ret1 rfl rfl (pure_end rfl)

theorem lenw_p {x : Nat} (hx : x < 18446744073709551616) : Pure Tryd.prog 133 #[.int .u64 (x : Int)] (.int .i64 ((Lib.bitLen x : Nat) : Int)) := by
  intro w
  refine calls_H (args := [.int .u64 (x : Int)]) (noD) [] Tryd.func133 rfl (m := 8) rfl rfl (hold_nil _ _) ?_
  refine HC.seq ?_
  refine HC.region ?_
  refine HL.val (Val.assign rfl) (by decide) ?_
  refine HL.nil ?_
  refine HQ.next ?_
  refine HC.seq ?_
  refine HC.no rfl ?_
  refine HC.skip ?_
  refine HQ.next ?_
  refine HC.seq ?_
  refine HC.region ?_
  refine HL.val (Val.move rfl) (by decide) ?_
  refine HL.val (Val.call en116 (len64_p hx) rfl) (by decide) ?_
  refine HL.val (Val.assign rfl) (by decide) ?_
  refine HL.nil ?_
  refine HQ.next ?_
  refine HC.ret ?_
  exact HQ.ret1 rfl rfl (pure_end rfl)

def tzI (x : Nat) : Nat := (((((x &&& (((18446744073709551616 - x) % 18446744073709551616)))) * 285870213051353865 % 18446744073709551616)) / 288230376151711744)
def tz (x : Nat) : Nat := dbL.getD (tzI x) 0
set_option maxRecDepth 100000 in
theorem tz_all : ∀ x, x < 129 → tzI x < 64 ∧ tz x ≤ 64 := by decide +kernel
theorem tzI_lt {x : Nat} (h : x < 129) : tzI x < 64 := (tz_all x h).1
theorem tz_le {x : Nat} (h : x < 129) : tz x ≤ 64 := (tz_all x h).2
set_option maxRecDepth 100000 in
theorem tz64_any {x : Nat} {w : World} (hd : DB w) (hs : x < 129) (h0 : ¬ x = 0) : Calls Tryd.prog 140 #[.int .u64 (x : Int)] w fun e w' => e = .returned (.int .i64 ((tz x : Nat) : Int)) ∧ Below w.heap.size w w' := by
  have hx : x < 18446744073709551616 := by omega
  refine calls_H (args := [.int .u64 (x : Int)]) (noD) [] Tryd.func140 rfl (m := 14) rfl rfl (hold_nil _ _) ?_
  refine HC.seq ?_
  refine HC.region ?_
  refine HL.val (Val.assign rfl) (by decide) ?_
  refine HL.nil ?_
  refine HQ.next ?_
  refine HC.seq ?_
  refine HC.seq ?_
  refine HC.region ?_
  refine HL.val (Val.move rfl) (by decide) ?_
  refine HL.val (((Val.eqlI rfl rfl).as (congrArg Value.bool (eqlN x 0))).as (congrArg Value.bool (decide_eq_false h0))) (by decide) ?_
  refine HL.nil ?_
  refine HQ.next ?_
  refine HC.no rfl ?_
  refine HC.skip ?_
  refine HQ.next ?_
  refine HC.seq ?_
  refine HC.region ?_
  refine HL.val (Val.move rfl) (by decide) ?_
  refine HL.val (Val.move rfl) (by decide) ?_
  refine HL.val ((Val.negI rfl).as (congrArg (Value.int .u64) (negL x hx))) (by decide) ?_
  refine HL.val ((Val.andI rfl rfl).as (congrArg (Value.int .u64) (andL x (((18446744073709551616 - x) % 18446744073709551616)) rfl hx (mod_lt64 _)))) (by decide) ?_
  refine HL.val ((Val.mulI rfl rfl).as (congrArg (Value.int .u64) (mulL ((x &&& (((18446744073709551616 - x) % 18446744073709551616)))) 285870213051353865 rfl))) (by decide) ?_
  refine HL.val ((Val.shrI rfl rfl (by decide) (by decide)).as (congrArg (Value.int .u64) (shrL ((((x &&& (((18446744073709551616 - x) % 18446744073709551616)))) * 285870213051353865 % 18446744073709551616)) 58 288230376151711744 rfl (by decide)))) (by decide) ?_
  refine HL.val (Val.ixAddrQ (tzI x) (i := tzI x) (m := 64) (s := 1) (e := 5) rfl rfl Tryd.underlying148 (by kernel_rfl) (tzI_lt hs) (by omega)) (by decide) ?_
  refine HL.val (Val.load_one rfl (fun w hw => (hd.sn hw.sn rfl) (tzI x) (tzI_lt hs)) Tryd.underlying5 rfl) (by decide) ?_
  refine HL.val ((Val.convI rfl rfl Tryd.underlying3).as (congrArg (Value.int .i64) (wrapI8 (tz_le hs)))) (by decide) ?_
  refine HL.val (Val.assign rfl) (by decide) ?_
  refine HL.nil ?_
  refine HQ.next ?_
  refine HC.ret ?_
  exact HQ.ret1 rfl rfl (pure_end rfl)

theorem tzw_any {x : Nat} {w : World} (hd : DB w) (hs : x < 129) (h0 : ¬ x = 0) : Calls Tryd.prog 132 #[.int .u64 (x : Int)] w fun e w' => e = .returned (.int .i64 ((tz x : Nat) : Int)) ∧ Below w.heap.size w w' := by
  refine calls_H (args := [.int .u64 (x : Int)]) (noD) [] Tryd.func132 rfl (m := 8) rfl rfl (hold_nil _ _) ?_
  refine HC.seq ?_
  refine HC.region ?_
  refine HL.val (Val.assign rfl) (by decide) ?_
  refine HL.nil ?_
  refine HQ.next ?_
  refine HC.seq ?_
  refine HC.no rfl ?_
  refine HC.skip ?_
  refine HQ.next ?_
  refine HC.seq ?_
  refine HC.region ?_
  refine HL.val (Val.move rfl) (by decide) ?_
  refine HL.val (Val.calls en140 (fun w hw => tz64_any (hd.sn hw.sn rfl) hs h0) rfl) (by decide) ?_
  refine HL.val (Val.assign rfl) (by decide) ?_
  refine HL.nil ?_
  refine HQ.next ?_
  refine HC.ret ?_
  exact HQ.ret1 rfl rfl (pure_end rfl)

/-- The exponent of the next power of two. -/
def lg (x : Nat) : Nat := if oc x = 1 then tz x else Lib.bitLen x
set_option maxRecDepth 100000 in
theorem lg_all : ∀ x, x < 65 → 0 < x → lg x ≤ 6 ∧ x ≤ 2 ^ lg x ∧ (oc x = 1 → 2 ^ lg x = x) := by decide +kernel
theorem lg_le {x : Nat} (h : x < 65) (h0 : 0 < x) : lg x ≤ 6 := (lg_all x h h0).1
theorem lg_ge {x : Nat} (h : x < 65) (h0 : 0 < x) : x ≤ 2 ^ lg x := (lg_all x h h0).2.1
set_option maxRecDepth 100000 in
theorem lg_of : ∀ k, k < 7 → lg (2 ^ k) = k := by decide +kernel
theorem wrapUI {v k : Nat} (h : v = k) (hv : k ≤ 64) : IntKind.u64.wrap (v : Int) = (k : Int) := by
  subst h; rw [IntKind.wrap_u64]; omega
theorem lg_one {x : Nat} (hs : x < 65) (h1 : oc x = 1) : IntKind.u64.wrap ((tz x : Nat) : Int) = ((lg x : Nat) : Int) := wrapUI (by unfold lg; rw [if_pos h1]) (by unfold lg; rw [if_pos h1]; exact tz_le (by omega))
theorem lg_two {x : Nat} (hs : x < 65) (h1 : ¬ oc x = 1) : IntKind.u64.wrap ((Lib.bitLen x : Nat) : Int) = ((lg x : Nat) : Int) := wrapUI (by unfold lg; rw [if_neg h1]) (by unfold lg; rw [if_neg h1]; exact Lib.bitLen_le x 64 (by decide) (by omega))
theorem lg_sh {x : Nat} (hs : x < 65) (h0 : ¬ x = 0) : IntKind.u64.wrap ((1 : Int) * 2 ^ ((lg x : Nat) : Int).toNat) = ((2 ^ lg x : Nat) : Int) := by
  rw [Int.toNat_natCast, IntKind.wrap_u64]
  have h := lg_le hs (by omega)
  have e : (1 : Int) * 2 ^ lg x = ((2 ^ lg x : Nat) : Int) := by rw [Int.one_mul]; norm_cast
  have h2 : 2 ^ lg x ≤ 2 ^ 6 := Nat.pow_le_pow_right (by decide) h
  have h3 : (2 : Nat) ^ 6 = 64 := by decide
  rw [e]
  generalize 2 ^ lg x = q at *
  omega
theorem lg_pow {x : Nat} (hs : x < 65) (h1 : oc x = 1) (h0 : ¬ x = 0) : 2 ^ lg x = x := (lg_all x hs (by omega)).2.2 h1

set_option maxRecDepth 100000 in
theorem nextPow_any {x : Nat} {w : World} (hd : DB w) (hs : x < 65) (h0 : ¬ x = 0) : Calls Tryd.prog 122 #[.int .u64 (x : Int)] w fun e w' => e = .returned (.tuple #[.int .u64 ((2 ^ lg x : Nat) : Int), .int .u64 ((lg x : Nat) : Int)]) ∧ Below w.heap.size w w' := by
  have hx : x < 18446744073709551616 := by omega
  by_cases h1 : oc x = 1
  · refine calls_H (args := [.int .u64 (x : Int)]) (noD) [] Tryd.func122 rfl (m := 16) rfl rfl (hold_nil _ _) ?_
    refine HC.seq ?_
    refine HC.region ?_
    refine HL.val (Val.assign rfl) (by decide) ?_
    refine HL.val (Val.assign rfl) (by decide) ?_
    refine HL.nil ?_
    refine HQ.next ?_
    refine HC.seq ?_
    refine HC.seq ?_
    refine HC.region ?_
    refine HL.val (Val.move rfl) (by decide) ?_
    refine HL.val (Val.call en131 (ocw_p (by omega)) rfl) (by decide) ?_
    refine HL.val (((Val.eqlI rfl rfl).as (congrArg Value.bool (eqlN (oc x) 1))).as (congrArg Value.bool (decide_eq_true h1))) (by decide) ?_
    refine HL.nil ?_
    refine HQ.next ?_
    refine HC.yes rfl ?_
    refine HC.seq ?_
    refine HC.region ?_
    refine HL.val (Val.move rfl) (by decide) ?_
    refine HL.val (Val.calls en132 (fun w hw => tzw_any (hd.sn hw.sn rfl) (by omega) h0) rfl) (by decide) ?_
    refine HL.val ((Val.convI rfl rfl Tryd.underlying22).as (v := .int .u64 ((lg x : Nat) : Int)) (congrArg (Value.int .u64) (lg_one hs h1))) (by decide) ?_
    refine HL.val (Val.assign rfl) (by decide) ?_
    refine HL.nil ?_
    refine HQ.next ?_
    refine HC.region ?_
    refine HL.val (Val.move rfl) (by decide) ?_
    refine HL.val (Val.assign rfl) (by decide) ?_
    refine HL.nil ?_
    refine HQ.next ?_
    refine HC.ret ?_
    exact HQ.ret2 rfl rfl rfl (pure_end (by rw [lg_pow hs h1 h0]))
  · refine calls_H (args := [.int .u64 (x : Int)]) (noD) [] Tryd.func122 rfl (m := 16) rfl rfl (hold_nil _ _) ?_
    refine HC.seq ?_
    refine HC.region ?_
    refine HL.val (Val.assign rfl) (by decide) ?_
    refine HL.val (Val.assign rfl) (by decide) ?_
    refine HL.nil ?_
    refine HQ.next ?_
    refine HC.seq ?_
    refine HC.seq ?_
    refine HC.region ?_
    refine HL.val (Val.move rfl) (by decide) ?_
    refine HL.val (Val.call en131 (ocw_p (by omega)) rfl) (by decide) ?_
    refine HL.val (((Val.eqlI rfl rfl).as (congrArg Value.bool (eqlN (oc x) 1))).as (congrArg Value.bool (decide_eq_false h1))) (by decide) ?_
    refine HL.nil ?_
    refine HQ.next ?_
    refine HC.no rfl ?_
    refine HC.seq ?_
    refine HC.region ?_
    refine HL.val (Val.move rfl) (by decide) ?_
    refine HL.val (Val.call en133 (lenw_p hx) rfl) (by decide) ?_
    refine HL.val ((Val.convI rfl rfl Tryd.underlying22).as (v := .int .u64 ((lg x : Nat) : Int)) (congrArg (Value.int .u64) (lg_two hs h1))) (by decide) ?_
    refine HL.val (Val.assign rfl) (by decide) ?_
    refine HL.nil ?_
    refine HQ.next ?_
    refine HC.region ?_
    refine HL.val (Val.move rfl) (by decide) ?_
    refine HL.val ((Val.shlI rfl rfl (Int.natCast_nonneg _) (show ((lg x : Nat) : Int) ≤ 64 by have := (lg_all x hs (by omega)).1; omega)).as (congrArg (Value.int .u64) (lg_sh hs h0))) (by decide) ?_
    refine HL.val (Val.assign rfl) (by decide) ?_
    refine HL.nil ?_
    refine HQ.next ?_
    refine HC.ret ?_
    exact HQ.ret2 rfl rfl rfl (pure_end rfl)
end Go.Proofs.YtgdfdkpkhjbibaaDoor
