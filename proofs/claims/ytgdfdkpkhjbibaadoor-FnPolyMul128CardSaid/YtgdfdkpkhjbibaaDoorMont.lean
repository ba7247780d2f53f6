/-
  The field of 128 bits in Montgomery's form: plain numbers (written by genmont.py).
-/
import Derived.Test.YtgdfdkpkhjbibaaDoorH3
import Derived.Laws.BitsAllLaws
namespace Go.Proofs.YtgdfdkpkhjbibaaDoor
/-- The order. -/
def pf : Nat := 340282366920938462946865773367900766209
/-- Montgomery's factor and its inverse. -/
def rf : Nat := 340282366920938463463374607431768211456
def ri : Nat := 340282366920938462430356939304033321744
theorem pf_pos : 0 < pf := by decide
theorem rf_ri : rf * ri % pf = 1 := by decide +kernel
theorem pf_lt : pf < rf := by decide +kernel
/-- The element's number in Montgomery's form. -/
theorem mont_ex : ∃ f : Nat → Nat, ∀ a, f a = a * rf % pf := ⟨_, fun _ => rfl⟩
noncomputable def mont : Nat → Nat := Classical.choose mont_ex
theorem mont_eq (a : Nat) : mont a = a * rf % pf := Classical.choose_spec mont_ex a
theorem mont_lt (n : Nat) : mont n < pf := by rw [mont_eq]; exact Nat.mod_lt _ pf_pos
theorem mont_zero : mont 0 = 0 := by simp only [mont_eq]; rw [Nat.zero_mul]; rfl
theorem mul_ri (a : Nat) : a * rf * ri % pf = a % pf := by rw [Nat.mul_assoc, Nat.mul_mod, rf_ri, Nat.mul_one, Nat.mod_mod]
/-- What is the same behind the factor is the same. -/
theorem rf_cancel {a b : Nat} (ha : a < pf) (hb : b < pf) (h : a * rf % pf = b * rf % pf) : a = b := by
  have h2 : a * rf * ri % pf = b * rf * ri % pf := by rw [Nat.mul_mod, h, ← Nat.mul_mod]
  rw [mul_ri, mul_ri, Nat.mod_eq_of_lt ha, Nat.mod_eq_of_lt hb] at h2
  exact h2
theorem mont_mod (n : Nat) : mont (n % pf) = mont n := by simp only [mont_eq]; rw [Nat.mod_mul_mod]
theorem mont_inj {a b : Nat} (ha : a < pf) (hb : b < pf) (h : mont a = mont b) : a = b := rf_cancel ha hb (by simpa only [mont_eq] using h)
theorem mont_add (a b : Nat) : (mont a + mont b) % pf = mont ((a + b) % pf) := by rw [mont_mod]; simp only [mont_eq]; rw [← Nat.add_mod, Nat.add_mul]
/-- The difference. -/
theorem subF_ex : ∃ f : Nat → Nat → Nat, ∀ a b, f a b = (a + (pf - b)) % pf := ⟨_, fun _ _ => rfl⟩
noncomputable def subF : Nat → Nat → Nat := Classical.choose subF_ex
theorem subF_eq (a b : Nat) : subF a b = (a + (pf - b)) % pf := Classical.choose_spec subF_ex a b
theorem subF_lt (a b : Nat) : subF a b < pf := by rw [subF_eq]; exact Nat.mod_lt _ pf_pos
theorem mont_sub {a b : Nat} (hb : b < pf) : subF (mont a) (mont b) = mont (subF a b) := by
  simp only [subF_eq]
  have h : (mont ((a + (pf - b)) % pf) + mont b) % pf = (mont a) % pf := by
    rw [mont_add, Nat.mod_add_mod, Nat.add_assoc, Nat.sub_add_cancel (Nat.le_of_lt hb), Nat.add_mod_right, mont_mod, Nat.mod_eq_of_lt (mont_lt a)]
  have h2 := mont_lt b
  have h3 := mont_lt ((a + (pf - b)) % pf)
  have h4 := mont_lt a
  unfold pf at *
  omega
/-- Montgomery's product. -/
theorem mm_ex : ∃ f : Nat → Nat → Nat, ∀ a b, f a b = a * b * ri % pf := ⟨_, fun _ _ => rfl⟩
noncomputable def mm : Nat → Nat → Nat := Classical.choose mm_ex
theorem mm_eq (a b : Nat) : mm a b = a * b * ri % pf := Classical.choose_spec mm_ex a b
theorem mm_lt (a b : Nat) : mm a b < pf := by rw [mm_eq]; exact Nat.mod_lt _ pf_pos
theorem mm_of {r a b : Nat} (hr : r < pf) (h : r * rf % pf = a * b % pf) : r = mm a b := by
  simp only [mm_eq]
  rw [Nat.mul_mod, ← h, ← Nat.mul_mod, mul_ri, Nat.mod_eq_of_lt hr]
theorem mm_spec (a b : Nat) : mm a b * rf % pf = a * b % pf := by
  simp only [mm_eq]
  rw [Nat.mod_mul_mod, Nat.mul_assoc, Nat.mul_comm ri rf, ← Nat.mul_assoc, mul_ri]
theorem mm_mont (a b : Nat) : mm (mont a) (mont b) = mont (a * b % pf) := by
  refine rf_cancel (mm_lt _ _) (mont_lt _) ?_
  rw [mm_spec, mont_mod]
  simp only [mont_eq]
  rw [← Nat.mul_mod, Nat.mod_mul_mod, Nat.mul_mul_mul_comm, ← Nat.mul_assoc]
theorem mm_one {n : Nat} (hn : n < pf) : mm (mont n) 1 = n := by
  refine rf_cancel (mm_lt _ _) hn ?_
  rw [mm_spec, Nat.mul_one]
  simp only [mont_eq]
  rw [Nat.mod_mod]
/-- The factor's square. -/
def r2f : Nat := 403909908237944342183153
theorem r2f_eq : r2f % pf = rf * rf % pf := by decide +kernel
theorem mm_r2 (n : Nat) : mm n r2f = mont n := by
  refine rf_cancel (mm_lt _ _) (mont_lt _) ?_
  rw [mm_spec, Nat.mul_mod, r2f_eq, ← Nat.mul_mod]
  simp only [mont_eq]
  rw [Nat.mod_mul_mod, Nat.mul_assoc]
/-- The second of two numbers where n is 1, else the first. -/
def selN (n x y : Nat) : Nat := if n = 1 then y else x
theorem selN_lt {n x y B : Nat} (hx : x < B) (hy : y < B) : selN n x y < B := by unfold selN; split <;> assumption
theorem msk_val {n : Nat} (hn : n ≤ 1) : IntKind.u64.wrap (-(n : Int)) = ((if n = 1 then 18446744073709551615 else 0 : Nat) : Int) := by
  rcases (show n = 0 ∨ n = 1 by omega) with rfl | rfl <;> decide +kernel
theorem nat_and_ones (a : Nat) (h : a < 18446744073709551616) : a &&& 18446744073709551615 = a := by
  have := Nat.and_two_pow_sub_one_eq_mod a 64
  simp only [Nat.reducePow, Nat.reduceSub] at this
  rw [this, Nat.mod_eq_of_lt h]
theorem cmov_sel {n : Nat} (hn : n ≤ 1) {x y : Nat} (hx : x < 18446744073709551616) (hy : y < 18446744073709551616) :
    bits .or .u64 (bits .andNot .u64 (x : Int) (IntKind.u64.wrap (-(n : Int)))) (bits .and .u64 (y : Int) (IntKind.u64.wrap (-(n : Int)))) = ((selN n x y : Nat) : Int) := by
  unfold selN
  rw [msk_val hn]
  rcases (show n = 0 ∨ n = 1 by omega) with rfl | rfl
  · simp only [show (0 : Nat) = 1 ↔ False by decide, if_false]
    rw [u64_andNot_nat x 0 hx (by decide), u64_and_nat y 0 hy (by decide), Nat.sub_zero, nat_and_ones x hx, Nat.and_zero, u64_or_nat x 0 hx (by decide), Nat.or_zero]
  · simp only [if_true]
    rw [u64_andNot_nat x 18446744073709551615 hx (by decide), u64_and_nat y 18446744073709551615 hy (by decide), Nat.sub_self, nat_and_ones y hy, Nat.and_zero, u64_or_nat 0 y (by decide) hy, Nat.zero_or]
end Go.Proofs.YtgdfdkpkhjbibaaDoor
