
/-
  What math/bits' Add64, Sub64 and Mul64 do over this program: the numbers that they hand back are named, and tied by one equation each.
-/
import Derived.Test.YteehdjkmjncehaaDoorBase
import Derived.Shelf.Spec.BitsCarry
import Derived.Lib.Mul64
import Derived.Laws.Bits64b
namespace Go.Proofs.YteehdjkmjncehaaDoor
open Go.RowKit

/-- 2^64. -/
def W64 : Nat := 18446744073709551616
/-- s and d are the sum's lower 64 bits and its carry. -/
def AddE (x y c s d : Nat) : Prop := s < 18446744073709551616 ∧ d ≤ 1 ∧ x + y + c = s + 18446744073709551616 * d
/-- s and d are the difference's 64 bits and its borrow. -/
def SubE (x y c s d : Nat) : Prop := s < 18446744073709551616 ∧ d ≤ 1 ∧ x + 18446744073709551616 * d = s + y + c
/-- h and l are the product's upper and lower 64 bits. -/
def MulE (x y h l : Nat) : Prop := h < 18446744073709551616 ∧ l < 18446744073709551616 ∧ x * y = l + 18446744073709551616 * h
theorem AddE.lt {x y c s d : Nat} (h : AddE x y c s d) : s < 18446744073709551616 := h.1
theorem AddE.c {x y c s d : Nat} (h : AddE x y c s d) : d ≤ 1 := h.2.1
theorem AddE.clt {x y c s d : Nat} (h : AddE x y c s d) : d < 18446744073709551616 := by have := h.2.1; omega
theorem SubE.lt {x y c s d : Nat} (h : SubE x y c s d) : s < 18446744073709551616 := h.1
theorem SubE.c {x y c s d : Nat} (h : SubE x y c s d) : d ≤ 1 := h.2.1
theorem SubE.clt {x y c s d : Nat} (h : SubE x y c s d) : d < 18446744073709551616 := by have := h.2.1; omega
theorem MulE.lt {x y h l : Nat} (e : MulE x y h l) : h < 18446744073709551616 := e.1
theorem MulE.lo {x y h l : Nat} (e : MulE x y h l) : l < 18446744073709551616 := e.2.1

theorem add64_run (x y c : Nat) (hc : c ≤ 1) (hx : x < 18446744073709551616) (hy : y < 18446744073709551616) (w : World) :
    ∃ s d : Nat, AddE x y c s d ∧ (callFunc 80 #[.int .u64 x, .int .u64 y, .int .u64 c]).run Tryd.prog w = .ok (.value (.tuple #[.int .u64 (s : Int), .int .u64 (d : Int)])) w := by
  refine ⟨(x + y + c) % 18446744073709551616, (x + y + c) / 18446744073709551616, ⟨by omega, by omega, by omega⟩, ?_⟩
  rw [run_callFunc_extern Tryd.func80 (by kernel_rfl) (by kernel_rfl) (by kernel_rfl) (e := add64Entry) (by kernel_rfl), run_add64 x y c (by omega) (by omega) (by omega) (by omega)]
  simp only [Result.andThen]
  congr 5 <;> omega

theorem sub64_run (x y c : Nat) (hc : c ≤ 1) (hx : x < 18446744073709551616) (hy : y < 18446744073709551616) (w : World) :
    ∃ s d : Nat, SubE x y c s d ∧ (callFunc 78 #[.int .u64 x, .int .u64 y, .int .u64 c]).run Tryd.prog w = .ok (.value (.tuple #[.int .u64 (s : Int), .int .u64 (d : Int)])) w := by
  refine ⟨(x + 18446744073709551616 - y - c) % 18446744073709551616, (if x < y + c then 1 else 0), ?_, ?_⟩
  · by_cases h : x < y + c
    · rw [if_pos h]; exact ⟨by omega, by omega, by omega⟩
    · rw [if_neg h]; exact ⟨by omega, by omega, by omega⟩
  · rw [run_callFunc_extern Tryd.func78 (by kernel_rfl) (by kernel_rfl) (by kernel_rfl) (e := sub64Entry) (by kernel_rfl), run_sub64 x y c hc]
    rfl

theorem upon_pair {o : Oper} {a : Act} {next : Act → World → Prop} {Q : Exit → Act → World → Prop} {w : World} {R : Nat → Nat → Prop} {r : Result Next}
    (hr : ∃ s d : Nat, R s d ∧ r = .ok (.value (.tuple #[.int .u64 (s : Int), .int .u64 (d : Int)])) w) (h : ∀ s d : Nat, R s d → next (a.put o.dst (.tuple #[.int .u64 (s : Int), .int .u64 (d : Int)])) w) :
    o.upon Tryd.prog a next Q r := by
  obtain ⟨s, d, e, rfl⟩ := hr
  exact h s d e

set_option maxRecDepth 100000 in
/-- The goal at a call of Add64. -/
theorem upon_add64 {o : Oper} {a : Act} {next : Act → World → Prop} {Q : Exit → Act → World → Prop} {X Y C : Int} {w : World} (x y c : Nat) (hX : X = x) (hY : Y = y) (hC : C = c)
    (hx : x < 18446744073709551616) (hy : y < 18446744073709551616) (hc : c ≤ 1) (h : ∀ s d : Nat, AddE x y c s d → next (a.put o.dst (.tuple #[.int .u64 (s : Int), .int .u64 (d : Int)])) w) :
    o.upon Tryd.prog a next Q ((callFunc 80 #[.int .u64 X, .int .u64 Y, .int .u64 C]).run Tryd.prog w) := by
  subst hX hY hC
  exact upon_pair (add64_run x y c hc hx hy w) h

set_option maxRecDepth 100000 in
/-- The goal at a call of Sub64. -/
theorem upon_sub64 {o : Oper} {a : Act} {next : Act → World → Prop} {Q : Exit → Act → World → Prop} {X Y C : Int} {w : World} (x y c : Nat) (hX : X = x) (hY : Y = y) (hC : C = c)
    (hx : x < 18446744073709551616) (hy : y < 18446744073709551616) (hc : c ≤ 1) (h : ∀ s d : Nat, SubE x y c s d → next (a.put o.dst (.tuple #[.int .u64 (s : Int), .int .u64 (d : Int)])) w) :
    o.upon Tryd.prog a next Q ((callFunc 78 #[.int .u64 X, .int .u64 Y, .int .u64 C]).run Tryd.prog w) := by
  subst hX hY hC
  exact upon_pair (sub64_run x y c hc hx hy w) h

namespace Mul64
theorem maskN (a : Nat) (ha : a < 18446744073709551616) : bits .and .u64 (a : Int) 4294967295 = ((a % 4294967296 : Nat) : Int) := by
  have h := bits_and_u64_nat a 4294967295 ha (by omega)
  have e : a &&& 4294967295 = a % 4294967296 := Nat.and_two_pow_sub_one_eq_mod a 32
  rw [e] at h
  exact h
theorem divN (a : Nat) : (a : Int) / 4294967296 = ((a / 4294967296 : Nat) : Int) := by omega
theorem mulN (a b : Nat) : (a : Int) * (b : Int) = ((a * b : Nat) : Int) := (Int.natCast_mul a b).symm
theorem addN (a b : Nat) : (a : Int) + (b : Int) = ((a + b : Nat) : Int) := (Int.natCast_add a b).symm
theorem wrapN (a : Nat) (ha : a < 18446744073709551616) : IntKind.u64.wrap (a : Int) = (a : Int) := by rw [IntKind.wrap_u64]; omega
theorem wrapM (a : Nat) : IntKind.u64.wrap (a : Int) = ((a % 18446744073709551616 : Nat) : Int) := by rw [IntKind.wrap_u64]; omega
end Mul64

set_option maxHeartbeats 1000000 in
theorem mul64_walk (x y : Nat) (hx : x < 18446744073709551616) (hy : y < 18446744073709551616) (w : World) :
    Calls Tryd.prog 81 #[.int .u64 x, .int .u64 y] w fun e w' => e = .returned (.tuple #[.int .u64 ((x * y / 18446744073709551616 : Nat) : Int), .int .u64 ((x * y % 18446744073709551616 : Nat) : Int)]) ∧ w' = w := by
  obtain ⟨bd, bt, bw, hhi⟩ := Lib.mul64_hi x y hx hy
  have ba := Lib.half_mul_le (a := x / 4294967296) (b := y / 4294967296) (by omega) (by omega)
  have bb := Lib.half_mul_le (a := x / 4294967296) (b := y % 4294967296) (by omega) (by omega)
  have bc := Lib.half_mul_le (a := x % 4294967296) (b := y / 4294967296) (by omega) (by omega)
  have ba' : x / 4294967296 * (y / 4294967296) < 18446744073709551616 := by omega
  have bb' : x / 4294967296 * (y % 4294967296) < 18446744073709551616 := by omega
  have bc' : x % 4294967296 * (y / 4294967296) < 18446744073709551616 := by omega
  have bh1 : x / 4294967296 * (y / 4294967296) + (x / 4294967296 * (y % 4294967296) + x % 4294967296 * (y % 4294967296) / 4294967296) / 4294967296 < 18446744073709551616 := by omega
  have bh : x / 4294967296 * (y / 4294967296) + (x / 4294967296 * (y % 4294967296) + x % 4294967296 * (y % 4294967296) / 4294967296) / 4294967296 + ((x / 4294967296 * (y % 4294967296) + x % 4294967296 * (y % 4294967296) / 4294967296) % 4294967296 + x % 4294967296 * (y / 4294967296)) / 4294967296 < 18446744073709551616 := by omega
  go_enter Tryd.func81, Tryd.ntmps81
  go_wp2
  simp only [Mul64.maskN x hx, Mul64.maskN y hy, Mul64.divN, Mul64.mulN, Mul64.addN, Mul64.wrapN _ bd, Mul64.wrapN _ bb', Mul64.wrapN _ bt, Mul64.maskN _ bt, Mul64.wrapN _ bc', Mul64.wrapN _ bw, Mul64.wrapN _ ba', Mul64.wrapN _ bh1, Mul64.wrapN _ bh, Mul64.wrapM (x * y)]
  rw [hhi]
  go_ret2
  exact ⟨rfl, rfl⟩

/-- The outcome of Mul64, under a name. -/
def MulR (x y : Nat) (w : World) (e : Ending) (w' : World) : Prop := ∃ h l : Nat, MulE x y h l ∧ e = .returned (.tuple #[.int .u64 (h : Int), .int .u64 (l : Int)]) ∧ w = w'

theorem mul64_any {X Y : Int} {w : World} (x y : Nat) (hX : X = x) (hY : Y = y) (hx : x < 18446744073709551616) (hy : y < 18446744073709551616) :
    Calls Tryd.prog 81 #[.int .u64 X, .int .u64 Y] w (MulR x y w) := by
  subst hX hY
  refine (mul64_walk x y hx hy w).mono fun e w' ⟨he, hw⟩ => ?_
  refine ⟨_, _, ⟨?_, Nat.mod_lt _ (by omega), ?_⟩, he, hw.symm⟩
  · have h1 : x * y ≤ 18446744073709551615 * 18446744073709551615 := Nat.mul_le_mul (by omega) (by omega)
    omega
  · omega
end Go.Proofs.YteehdjkmjncehaaDoor
