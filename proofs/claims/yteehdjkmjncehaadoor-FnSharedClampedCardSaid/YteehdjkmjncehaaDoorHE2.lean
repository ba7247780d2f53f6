/-
  The symbolic walk over this program: literals, parts of rows (written by genhe2.py).
-/
import Derived.Test.YteehdjkmjncehaaDoorHE
namespace Go.Proofs.YteehdjkmjncehaaDoor
open Go.RowKit
set_option maxRecDepth 100000 in
theorem bn3 (a b c : Nat) : Tryd.prog.built 49 [(0, nV a), (1, nV b), (2, nV c)] = some (dgA 80 (w5F a b c 0 0)) := by
  have h := built_5 a b c 0 0
  refine Eq.trans ?_ h
  kernel_rfl
theorem eqsz5 (a b c d e a' b' c' d' e' : Nat) : (elA [a, b, c, d, e]).size = (elA [a', b', c', d', e']).size := by rw [elA_size, elA_size]; rfl
theorem arr8_get' (ls : List Nat) (k j l : Nat) (h : ls[k]? = some l) (hj : j < 8) : (arr8 ls)[8 * k + j]? = some (bv l j) := arr8_get l ls k j h hj
theorem elA_at {vs : List Nat} {q v j : Nat} (h : vs[q]? = some v) (hj : j < 32) : (elA vs)[32 * q + j]? = some (bv v j) := by
  obtain ⟨k, i, hk, hi, rfl⟩ : ∃ k i, k < 4 ∧ i < 8 ∧ j = 8 * k + i := ⟨j / 8, j % 8, by omega, by omega, by omega⟩
  have h1 := flat_get vs q v k h hk
  have h2 := arr8_get _ _ (4 * q + k) i h1 hi
  rw [show 32 * q + (8 * k + i) = 8 * (4 * q + k) + i by omega, List.getElem?_toArray, h2]
  unfold bv
  rw [limb_byte v k i hi]
theorem elA_get {vs : List Nat} {v : Nat} (q : Nat) (h : vs[q]? = some v) : ∀ j, j < (byA 32 v).size → (elA vs)[32 * q + j]? = (byA 32 v)[j]? := fun j hj => by
  rw [byA_size] at hj
  rw [elA_at h hj, byA_get hj]

theorem w5_get0 (a b c d e : Nat) : ∀ j, j < (dgA 16 (dig a)).size → (dgA 80 (w5F a b c d e))[0 + j]? = (dgA 16 (dig a))[j]? := fun j hj => by
  rw [dgA_size] at hj
  rw [dgA_get (by omega), dgA_get hj]
  unfold w5F
  rw [if_pos (by omega)]; rw [Nat.zero_add]

theorem w5_get1 (a b c d e : Nat) : ∀ j, j < (dgA 16 (dig b)).size → (dgA 80 (w5F a b c d e))[16 + j]? = (dgA 16 (dig b))[j]? := fun j hj => by
  rw [dgA_size] at hj
  rw [dgA_get (by omega), dgA_get hj]
  unfold w5F
  rw [if_neg (by omega)]; rw [if_pos (by omega)]; rw [show 16 + j - 16 = j by omega]

theorem w5_get2 (a b c d e : Nat) : ∀ j, j < (dgA 16 (dig c)).size → (dgA 80 (w5F a b c d e))[32 + j]? = (dgA 16 (dig c))[j]? := fun j hj => by
  rw [dgA_size] at hj
  rw [dgA_get (by omega), dgA_get hj]
  unfold w5F
  rw [if_neg (by omega)]; rw [if_neg (by omega)]; rw [if_pos (by omega)]; rw [show 32 + j - 32 = j by omega]

theorem w5_get3 (a b c d e : Nat) : ∀ j, j < (dgA 16 (dig d)).size → (dgA 80 (w5F a b c d e))[48 + j]? = (dgA 16 (dig d))[j]? := fun j hj => by
  rw [dgA_size] at hj
  rw [dgA_get (by omega), dgA_get hj]
  unfold w5F
  rw [if_neg (by omega)]; rw [if_neg (by omega)]; rw [if_neg (by omega)]; rw [if_pos (by omega)]; rw [show 48 + j - 48 = j by omega]

theorem w5_get4 (a b c d e : Nat) : ∀ j, j < (dgA 16 (dig e)).size → (dgA 80 (w5F a b c d e))[64 + j]? = (dgA 16 (dig e))[j]? := fun j hj => by
  rw [dgA_size] at hj
  rw [dgA_get (by omega), dgA_get hj]
  unfold w5F
  rw [if_neg (by omega)]; rw [if_neg (by omega)]; rw [if_neg (by omega)]; rw [if_neg (by omega)]; rw [show 64 + j - 64 = j by omega]

/-- The power that inverts. -/
def invN (x : Nat) : Nat := x ^ (p25 - 2) % p25
theorem invN_lt (x : Nat) : invN x < 2 ^ 256 := lt256 _
/-- Powers told modulo the prime. -/
def PowIs (x r e : Nat) : Prop := r % p25 = x ^ e % p25
theorem PowIs.one (x : Nat) : PowIs x x 1 := by unfold PowIs; rw [Nat.pow_one]
theorem PowIs.mul {x a b r : Nat} (e f g : Nat) (h : r % p25 = a * b % p25) (ha : PowIs x a e) (hb : PowIs x b f) (hg : e + f = g) : PowIs x r g := by
  unfold PowIs at *
  subst hg
  rw [h, Nat.mul_mod, ha, hb, ← Nat.mul_mod, Nat.pow_add]
theorem PowIs.sqr {x a r : Nat} (e g : Nat) (h : r % p25 = a * a % p25) (ha : PowIs x a e) (hg : e + e = g) : PowIs x r g := ha.mul e e g h ha hg
theorem PowIs.step {x a r : Nat} (e k : Nat) (h : r % p25 = a * a % p25) (ha : PowIs x a (e * 2 ^ k)) : PowIs x r (e * 2 ^ (k + 1)) := ha.sqr _ _ h (by rw [Nat.pow_succ, ← Nat.mul_assoc, Nat.mul_two])
end Go.Proofs.YteehdjkmjncehaaDoor
