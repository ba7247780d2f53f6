/-
  Plain mathematics: ed, pt, lad, eul, cnt, fin.
-/
import Derived.Test.YteehdjkmjncehaaDoorMA
namespace Num
/-- A number is nought modulo another one. -/
def Z (p : Nat) (a : Int) : Prop := (p : Int) ∣ a

theorem Z.zero (p : Nat) : Z p 0 := Int.dvd_zero _
theorem Z.lin1 {p : Nat} {x e₁ : Int} (c₁ : Int) (h₁ : Z p e₁) (h : x = c₁ * e₁) : Z p x := by
  subst h; exact Int.dvd_mul_of_dvd_right h₁
theorem Z.lin2 {p : Nat} {x e₁ e₂ : Int} (c₁ c₂ : Int) (h₁ : Z p e₁) (h₂ : Z p e₂) (h : x = c₁ * e₁ + c₂ * e₂) : Z p x := by
  subst h; exact Int.dvd_add (Int.dvd_mul_of_dvd_right h₁) (Int.dvd_mul_of_dvd_right h₂)
theorem Z.lin3 {p : Nat} {x e₁ e₂ e₃ : Int} (c₁ c₂ c₃ : Int) (h₁ : Z p e₁) (h₂ : Z p e₂) (h₃ : Z p e₃) (h : x = c₁ * e₁ + c₂ * e₂ + c₃ * e₃) : Z p x := by
  subst h; exact Int.dvd_add (Int.dvd_add (Int.dvd_mul_of_dvd_right h₁) (Int.dvd_mul_of_dvd_right h₂)) (Int.dvd_mul_of_dvd_right h₃)
theorem Z.lin4 {p : Nat} {x e₁ e₂ e₃ e₄ : Int} (c₁ c₂ c₃ c₄ : Int) (h₁ : Z p e₁) (h₂ : Z p e₂) (h₃ : Z p e₃) (h₄ : Z p e₄) (h : x = c₁ * e₁ + c₂ * e₂ + c₃ * e₃ + c₄ * e₄) : Z p x := by
  subst h; exact Int.dvd_add (Int.dvd_add (Int.dvd_add (Int.dvd_mul_of_dvd_right h₁) (Int.dvd_mul_of_dvd_right h₂)) (Int.dvd_mul_of_dvd_right h₃)) (Int.dvd_mul_of_dvd_right h₄)

theorem Z.nat {p a : Nat} : Z p (a : Int) ↔ p ∣ a := Int.natCast_dvd_natCast
theorem Z.abs {p : Nat} {a : Int} : Z p a ↔ p ∣ a.natAbs := by
  unfold Z; rw [← Int.dvd_natAbs, Int.natCast_dvd_natCast]

theorem Z.euclid {p : Nat} (hp : Pr p) {a b : Int} (h : Z p (a * b)) : Z p a ∨ Z p b := by
  rw [Z.abs, Int.natAbs_mul] at h
  rcases hp.euclid h with h1 | h1
  · exact Or.inl (Z.abs.2 h1)
  · exact Or.inr (Z.abs.2 h1)

/-- What is nought times a number that is not nought is nought. -/
theorem Z.of_mul {p : Nat} (hp : Pr p) {a b : Int} (ha : ¬ Z p a) (h : Z p (a * b)) : Z p b := (Z.euclid hp h).resolve_left ha

theorem Z.sq {p : Nat} (hp : Pr p) {a : Int} (h : Z p (a * a)) : Z p a := (Z.euclid hp h).elim id id

theorem Z.not_mul {p : Nat} (hp : Pr p) {a b : Int} (ha : ¬ Z p a) (hb : ¬ Z p b) : ¬ Z p (a * b) := fun h => hb (Z.of_mul hp ha h)

theorem Z.eq {p : Nat} {a b : Nat} (ha : a < p) (hb : b < p) (h : Z p ((a : Int) - b)) : a = b := by
  have h1 : ((a : Int) - b).natAbs < p := by omega
  rw [Z.abs] at h
  have := Nat.eq_zero_of_dvd_of_lt h h1
  omega

theorem Z.emod (p : Nat) (a : Int) : Z p (a % p - a) := by
  refine ⟨-(a / p), ?_⟩
  have := Int.mul_ediv_add_emod a p
  grind

theorem Z.mod (p a : Nat) : Z p ((a % p : Nat) - a : Int) := by
  have := Z.emod p a
  rwa [← Int.natCast_emod] at this

/-- The residue of a whole number. -/
def res (p : Nat) (a : Int) : Nat := (a % (p : Int)).toNat

theorem res_lt {p : Nat} (hp : 0 < p) (a : Int) : res p a < p := by
  have h1 := Int.emod_lt_of_pos a (show (0 : Int) < p from by omega)
  have h2 := Int.emod_nonneg a (show (p : Int) ≠ 0 from by omega)
  unfold res; omega

theorem res_z {p : Nat} (hp : 0 < p) (a : Int) : Z p ((res p a : Int) - a) := by
  have h2 := Int.emod_nonneg a (show (p : Int) ≠ 0 from by omega)
  unfold res; rw [Int.toNat_of_nonneg h2]; exact Z.emod p a

theorem Z.inv {p : Nat} (hp : Pr p) {a : Int} (ha : ¬ Z p a) : ∃ i : Nat, i < p ∧ Z p (a * i - 1) := by
  have h0 : 0 < p := by have := hp.1; omega
  have hm : 0 < res p a ∧ res p a < p := by
    refine ⟨Nat.pos_of_ne_zero fun e => ha ?_, res_lt h0 a⟩
    have := res_z h0 a
    rw [e] at this
    exact this.lin1 (-1) (by grind)
  obtain ⟨i, hi, e⟩ := (units_grp hp).inv _ hm
  refine ⟨i, hi.2, ?_⟩
  have h1 := Z.mod p (i * res p a)
  have e' : i * res p a % p = 1 := e
  rw [e'] at h1
  have h3 := res_z h0 a
  refine Z.lin2 (-1) (-(i : Int)) h1 h3 ?_
  push_cast; grind

theorem not_one {p : Nat} (hp : Pr p) : ¬ Z p 1 := by
  intro h
  have h1 := Z.nat (p := p) (a := 1).1 h
  have h2 := Nat.le_of_dvd (by decide) h1
  have h3 := hp.1
  omega

/-! The curve x² + y² = 1 + d x² y². -/

/-- A point of the curve. -/
def On (p : Nat) (d x y : Int) : Prop := Z p (x^2 + y^2 - 1 - d*x^2*y^2)

/-- A point is the sum of two points. -/
def Sum (p : Nat) (d x1 y1 x2 y2 x3 y3 : Int) : Prop :=
  Z p (x3 * (1 + d*x1*x2*y1*y2) - (x1*y2 + y1*x2)) ∧ Z p (y3 * (1 - d*x1*x2*y1*y2) - (y1*y2 - x1*x2))

/-- No square is d times a square, but nought. -/
def Ani (p : Nat) (d : Int) : Prop := ∀ a b : Int, Z p (a*a - d*(b*b)) → Z p b

set_option maxHeartbeats 2000000 in
theorem key_x {p : Nat} {d x1 y1 x2 y2 x3 y3 : Int} (e1 : On p d x1 y1) (e2 : On p d x2 y2) (e3 : On p d x3 y3) :
    Z p (((x1*y2+y1*x2)*(1-d*x1*x2*y1*y2)*y3+(y1*y2-x1*x2)*(1+d*x1*x2*y1*y2)*x3)*((1+d*x2*x3*y2*y3)*(1-d*x2*x3*y2*y3)+d*x1*y1*(x2*y3+y2*x3)*(y2*y3-x2*x3))
      -(x1*(y2*y3-x2*x3)*(1+d*x2*x3*y2*y3)+y1*(x2*y3+y2*x3)*(1-d*x2*x3*y2*y3))*((1+d*x1*x2*y1*y2)*(1-d*x1*x2*y1*y2)+d*(x1*y2+y1*x2)*(y1*y2-x1*x2)*x3*y3)) := by
  refine Z.lin3 (d^2*x1*x2^4*y2^3*x3^2*y3 -d^2*x1*x2^3*y2^4*x3*y3^2 +d^2*y1*x2^4*y2^3*x3*y3^2 +d^2*y1*x2^3*y2^4*x3^2*y3 -d*x1*x2^4*y2*x3^2*y3 -d*x1*x2^3*y2^2*x3^3 +d*x1*x2^3*y2^2*x3 +d*x1*x2^2*y2^3*y3^3 -d*x1*x2^2*y2^3*y3 +d*x1*x2*y2^4*x3*y3^2 -d*y1*x2^4*y2*x3*y3^2 +d*y1*x2^3*y2^2*y3^3 -d*y1*x2^3*y2^2*y3 +d*y1*x2^2*y2^3*x3^3 -d*y1*x2^2*y2^3*x3 -d*y1*x2*y2^4*x3^2*y3) (-d^2*x1^2*y1*x2^2*y2*x3^3*y3^2 -d^2*x1^2*y1*x2*y2^2*x3^2*y3^3 -d^2*x1*y1^2*x2^2*y2*x3^2*y3^3 +d^2*x1*y1^2*x2*y2^2*x3^3*y3^2 +d*x1^3*x2^2*y2*x3^2*y3 -d*x1^3*x2*y2^2*x3*y3^2 +d*x1^3*x2*x3^3*y3^2 -d*x1^3*y2*x3^2*y3^3 +d*x1^2*y1*x2^2*y2*x3*y3^2 +d*x1^2*y1*x2*y2^2*x3^2*y3 -d*x1^2*y1*x2*x3^2*y3^3 -d*x1^2*y1*y2*x3^3*y3^2 +d*x1*y1^2*x2^2*y2*x3^2*y3 -d*x1*y1^2*x2*y2^2*x3*y3^2 +d*x1*y1^2*x2*x3^3*y3^2 -d*x1*y1^2*y2*x3^2*y3^3 -d*x1*x2^2*y2*x3^2*y3 +d*x1*x2*y2^2*x3*y3^2 -d*x1*x2*x3^3*y3^2 +d*x1*y2*x3^2*y3^3 +d*y1^3*x2^2*y2*x3*y3^2 +d*y1^3*x2*y2^2*x3^2*y3 -d*y1^3*x2*x3^2*y3^3 -d*y1^3*y2*x3^3*y3^2 -d*y1*x2^2*y2*x3*y3^2 -d*y1*x2*y2^2*x3^2*y3 +d*y1*x2*x3^2*y3^3 +d*y1*y2*x3^3*y3^2 -x1^3*x2*x3^3 -x1^3*x2*x3*y3^2 +x1^3*x2*x3 +x1^3*y2*x3^2*y3 +x1^3*y2*y3^3 -x1^3*y2*y3 +x1^2*y1*x2*x3^2*y3 +x1^2*y1*x2*y3^3 -x1^2*y1*x2*y3 +x1^2*y1*y2*x3^3 +x1^2*y1*y2*x3*y3^2 -x1^2*y1*y2*x3 -x1*y1^2*x2*x3^3 -x1*y1^2*x2*x3*y3^2 +x1*y1^2*x2*x3 +x1*y1^2*y2*x3^2*y3 +x1*y1^2*y2*y3^3 -x1*y1^2*y2*y3 +x1*x2*x3^3 +x1*x2*x3*y3^2 -x1*x2*x3 -x1*y2*x3^2*y3 -x1*y2*y3^3 +x1*y2*y3 +y1^3*x2*x3^2*y3 +y1^3*x2*y3^3 -y1^3*x2*y3 +y1^3*y2*x3^3 +y1^3*y2*x3*y3^2 -y1^3*y2*x3 -y1*x2*x3^2*y3 -y1*x2*y3^3 +y1*x2*y3 -y1*y2*x3^3 -y1*y2*x3*y3^2 +y1*y2*x3) (d*x1^2*y1*x2^2*y2*x3 +d*x1^2*y1*x2*y2^2*y3 +d*x1*y1^2*x2^2*y2*y3 -d*x1*y1^2*x2*y2^2*x3 +x1^3*x2^3*x3 -x1^3*x2^2*y2*y3 +x1^3*x2*y2^2*x3 -x1^3*x2*x3 -x1^3*y2^3*y3 +x1^3*y2*y3 -x1^2*y1*x2^3*y3 -x1^2*y1*x2^2*y2*x3 -x1^2*y1*x2*y2^2*y3 +x1^2*y1*x2*y3 -x1^2*y1*y2^3*x3 +x1^2*y1*y2*x3 +x1*y1^2*x2^3*x3 -x1*y1^2*x2^2*y2*y3 +x1*y1^2*x2*y2^2*x3 -x1*y1^2*x2*x3 -x1*y1^2*y2^3*y3 +x1*y1^2*y2*y3 -x1*x2^3*x3 +x1*x2^2*y2*y3 -x1*x2*y2^2*x3 +x1*x2*x3 +x1*y2^3*y3 -x1*y2*y3 -y1^3*x2^3*y3 -y1^3*x2^2*y2*x3 -y1^3*x2*y2^2*y3 +y1^3*x2*y3 -y1^3*y2^3*x3 +y1^3*y2*x3 +y1*x2^3*y3 +y1*x2^2*y2*x3 +y1*x2*y2^2*y3 -y1*x2*y3 +y1*y2^3*x3 -y1*y2*x3) e1 e2 e3 ?_
  grind

set_option maxHeartbeats 2000000 in
theorem key_y {p : Nat} {d x1 y1 x2 y2 x3 y3 : Int} (e1 : On p d x1 y1) (e2 : On p d x2 y2) (e3 : On p d x3 y3) :
    Z p (((y1*y2-x1*x2)*(1+d*x1*x2*y1*y2)*y3-(x1*y2+y1*x2)*(1-d*x1*x2*y1*y2)*x3)*((1+d*x2*x3*y2*y3)*(1-d*x2*x3*y2*y3)-d*x1*y1*(x2*y3+y2*x3)*(y2*y3-x2*x3))
      -(y1*(y2*y3-x2*x3)*(1+d*x2*x3*y2*y3)-x1*(x2*y3+y2*x3)*(1-d*x2*x3*y2*y3))*((1+d*x1*x2*y1*y2)*(1-d*x1*x2*y1*y2)-d*(x1*y2+y1*x2)*(y1*y2-x1*x2)*x3*y3)) := by
  refine Z.lin3 (-d^2*x1*x2^4*y2^3*x3*y3^2 -d^2*x1*x2^3*y2^4*x3^2*y3 +d^2*y1*x2^4*y2^3*x3^2*y3 -d^2*y1*x2^3*y2^4*x3*y3^2 +d*x1*x2^4*y2*x3*y3^2 -d*x1*x2^3*y2^2*y3^3 +d*x1*x2^3*y2^2*y3 -d*x1*x2^2*y2^3*x3^3 +d*x1*x2^2*y2^3*x3 +d*x1*x2*y2^4*x3^2*y3 -d*y1*x2^4*y2*x3^2*y3 -d*y1*x2^3*y2^2*x3^3 +d*y1*x2^3*y2^2*x3 +d*y1*x2^2*y2^3*y3^3 -d*y1*x2^2*y2^3*y3 +d*y1*x2*y2^4*x3*y3^2) (-d^2*x1^2*y1*x2^2*y2*x3^2*y3^3 +d^2*x1^2*y1*x2*y2^2*x3^3*y3^2 +d^2*x1*y1^2*x2^2*y2*x3^3*y3^2 +d^2*x1*y1^2*x2*y2^2*x3^2*y3^3 -d*x1^3*x2^2*y2*x3*y3^2 -d*x1^3*x2*y2^2*x3^2*y3 +d*x1^3*x2*x3^2*y3^3 +d*x1^3*y2*x3^3*y3^2 +d*x1^2*y1*x2^2*y2*x3^2*y3 -d*x1^2*y1*x2*y2^2*x3*y3^2 +d*x1^2*y1*x2*x3^3*y3^2 -d*x1^2*y1*y2*x3^2*y3^3 -d*x1*y1^2*x2^2*y2*x3*y3^2 -d*x1*y1^2*x2*y2^2*x3^2*y3 +d*x1*y1^2*x2*x3^2*y3^3 +d*x1*y1^2*y2*x3^3*y3^2 +d*x1*x2^2*y2*x3*y3^2 +d*x1*x2*y2^2*x3^2*y3 -d*x1*x2*x3^2*y3^3 -d*x1*y2*x3^3*y3^2 +d*y1^3*x2^2*y2*x3^2*y3 -d*y1^3*x2*y2^2*x3*y3^2 +d*y1^3*x2*x3^3*y3^2 -d*y1^3*y2*x3^2*y3^3 -d*y1*x2^2*y2*x3^2*y3 +d*y1*x2*y2^2*x3*y3^2 -d*y1*x2*x3^3*y3^2 +d*y1*y2*x3^2*y3^3 -x1^3*x2*x3^2*y3 -x1^3*x2*y3^3 +x1^3*x2*y3 -x1^3*y2*x3^3 -x1^3*y2*x3*y3^2 +x1^3*y2*x3 -x1^2*y1*x2*x3^3 -x1^2*y1*x2*x3*y3^2 +x1^2*y1*x2*x3 +x1^2*y1*y2*x3^2*y3 +x1^2*y1*y2*y3^3 -x1^2*y1*y2*y3 -x1*y1^2*x2*x3^2*y3 -x1*y1^2*x2*y3^3 +x1*y1^2*x2*y3 -x1*y1^2*y2*x3^3 -x1*y1^2*y2*x3*y3^2 +x1*y1^2*y2*x3 +x1*x2*x3^2*y3 +x1*x2*y3^3 -x1*x2*y3 +x1*y2*x3^3 +x1*y2*x3*y3^2 -x1*y2*x3 -y1^3*x2*x3^3 -y1^3*x2*x3*y3^2 +y1^3*x2*x3 +y1^3*y2*x3^2*y3 +y1^3*y2*y3^3 -y1^3*y2*y3 +y1*x2*x3^3 +y1*x2*x3*y3^2 -y1*x2*x3 -y1*y2*x3^2*y3 -y1*y2*y3^3 +y1*y2*y3) (d*x1^2*y1*x2^2*y2*y3 -d*x1^2*y1*x2*y2^2*x3 -d*x1*y1^2*x2^2*y2*x3 -d*x1*y1^2*x2*y2^2*y3 +x1^3*x2^3*y3 +x1^3*x2^2*y2*x3 +x1^3*x2*y2^2*y3 -x1^3*x2*y3 +x1^3*y2^3*x3 -x1^3*y2*x3 +x1^2*y1*x2^3*x3 -x1^2*y1*x2^2*y2*y3 +x1^2*y1*x2*y2^2*x3 -x1^2*y1*x2*x3 -x1^2*y1*y2^3*y3 +x1^2*y1*y2*y3 +x1*y1^2*x2^3*y3 +x1*y1^2*x2^2*y2*x3 +x1*y1^2*x2*y2^2*y3 -x1*y1^2*x2*y3 +x1*y1^2*y2^3*x3 -x1*y1^2*y2*x3 -x1*x2^3*y3 -x1*x2^2*y2*x3 -x1*x2*y2^2*y3 +x1*x2*y3 -x1*y2^3*x3 +x1*y2*x3 +y1^3*x2^3*x3 -y1^3*x2^2*y2*y3 +y1^3*x2*y2^2*x3 -y1^3*x2*x3 -y1^3*y2^3*y3 +y1^3*y2*y3 -y1*x2^3*x3 +y1*x2^2*y2*y3 -y1*x2*y2^2*x3 +y1*x2*x3 +y1*y2^3*y3 -y1*y2*y3) e1 e2 e3 ?_
  grind

section curve
variable {p : Nat} (hp : Pr p) {d : Int} (hd : Ani p d) (h2 : ¬ Z p 2)
include hp hd h2

/-- The two denominators of a sum are not nought. -/
theorem complete {s x1 y1 x2 y2 : Int} (hs : s * s = 1) (e1 : On p d x1 y1) (e2 : On p d x2 y2) : ¬ Z p (s + d*x1*x2*y1*y2) := by
  intro h
  have hxy : ¬ Z p (x1 * y1) := by
    intro h1
    refine not_one hp (Z.lin2 (s) (-(s * d * x2 * y2)) h h1 ?_)
    grind
  have hA : Z p ((x1 - s * y1) * (x1 - s * y1) - d * ((x1 * y1 * (x2 + y2)) * (x1 * y1 * (x2 + y2)))) := by
    refine Z.lin3 (1) (-(d * x1^2 * y1^2)) (s - d*x1*x2*y1*y2 - 2*x1*y1) e1 e2 h ?_
    grind
  have hB : Z p ((x1 + s * y1) * (x1 + s * y1) - d * ((x1 * y1 * (x2 - y2)) * (x1 * y1 * (x2 - y2)))) := by
    refine Z.lin3 (1) (-(d * x1^2 * y1^2)) (s - d*x1*x2*y1*y2 + 2*x1*y1) e1 e2 h ?_
    grind
  have hA' := Z.of_mul hp hxy (hd _ _ hA)
  have hB' := Z.of_mul hp hxy (hd _ _ hB)
  have h3 : Z p x2 := Z.of_mul hp h2 (Z.lin2 1 1 hA' hB' (by grind))
  have h4 : Z p y2 := Z.of_mul hp h2 (Z.lin2 1 (-1) hA' hB' (by grind))
  refine not_one hp (Z.lin3 (-1) (x2 - d * x2 * y2^2) (y2) e2 h3 h4 ?_)
  grind

theorem den1 {x1 y1 x2 y2 : Int} (e1 : On p d x1 y1) (e2 : On p d x2 y2) : ¬ Z p (1 + d*x1*x2*y1*y2) := complete hp hd h2 (s := 1) (by decide) e1 e2

theorem den2 {x1 y1 x2 y2 : Int} (e1 : On p d x1 y1) (e2 : On p d x2 y2) : ¬ Z p (1 - d*x1*x2*y1*y2) := by
  intro h
  refine complete hp hd h2 (s := -1) (by decide) e1 e2 (Z.lin1 (-1) h (by grind))

theorem exists_sum {x1 y1 x2 y2 : Int} (e1 : On p d x1 y1) (e2 : On p d x2 y2) : ∃ q : Nat × Nat, q.1 < p ∧ q.2 < p ∧ Sum p d x1 y1 x2 y2 q.1 q.2 := by
  obtain ⟨i, _, hi⟩ := Z.inv hp (den1 hp hd h2 e1 e2)
  obtain ⟨j, _, hj⟩ := Z.inv hp (den2 hp hd h2 e1 e2)
  have h0 : 0 < p := by have := hp.1; omega
  refine ⟨(res p ((x1*y2 + y1*x2) * i), res p ((y1*y2 - x1*x2) * j)), res_lt h0 _, res_lt h0 _, ?_, ?_⟩
  · have h3 := res_z h0 ((x1*y2 + y1*x2) * i)
    refine Z.lin2 (1 + d*x1*x2*y1*y2) (x1*y2 + y1*x2) h3 hi ?_
    grind
  · have h3 := res_z h0 ((y1*y2 - x1*x2) * j)
    refine Z.lin2 (1 - d*x1*x2*y1*y2) (y1*y2 - x1*x2) h3 hj ?_
    grind

theorem sum_unique {x1 y1 x2 y2 x3 y3 x4 y4 : Int} (e1 : On p d x1 y1) (e2 : On p d x2 y2) (h : Sum p d x1 y1 x2 y2 x3 y3) (h' : Sum p d x1 y1 x2 y2 x4 y4) : Z p (x3 - x4) ∧ Z p (y3 - y4) := by
  refine ⟨Z.of_mul hp (den1 hp hd h2 e1 e2) (Z.lin2 1 (-1) h.1 h'.1 (by grind)), Z.of_mul hp (den2 hp hd h2 e1 e2) (Z.lin2 1 (-1) h.2 h'.2 (by grind))⟩

theorem sum_on {x1 y1 x2 y2 x3 y3 : Int} (e1 : On p d x1 y1) (e2 : On p d x2 y2) (h : Sum p d x1 y1 x2 y2 x3 y3) : On p d x3 y3 := by
  have d1 := den1 hp hd h2 e1 e2
  have d2 := den2 hp hd h2 e1 e2
  obtain ⟨hx, hy⟩ := h
  have key : Z p ((x1*y2 + y1*x2)^2*(1 - d*x1*x2*y1*y2)^2 + (y1*y2 - x1*x2)^2*(1 + d*x1*x2*y1*y2)^2 - (1 + d*x1*x2*y1*y2)^2*(1 - d*x1*x2*y1*y2)^2 - d*(x1*y2 + y1*x2)^2*(y1*y2 - x1*x2)^2) := by
    refine Z.lin2 (d^3*x1^2*y1^2*x2^4*y2^4 +d^2*x1^2*x2^4*y2^4 +d^2*y1^2*x2^4*y2^4 -d^2*x2^4*y2^4 -d*x1^2*x2^4*y2^2 -d*x1^2*x2^2*y2^4 -d*y1^2*x2^4*y2^2 -d*y1^2*x2^2*y2^4 +2*d*x2^4*y2^4 -2*d*x2^2*y2^2 -2*x2^4*y2^2 +x2^4 -2*x2^2*y2^4 +4*x2^2*y2^2 +y2^4) (d*x1^4*x2^2*y2^2 -2*d*x1^2*x2^2*y2^2 +d*y1^4*x2^2*y2^2 -2*d*y1^2*x2^2*y2^2 +d*x2^2*y2^2 +2*x1^2*x2^2*y2^2 -x1^2*x2^2 -x1^2*y2^2 +2*y1^2*x2^2*y2^2 -y1^2*x2^2 -y1^2*y2^2 -2*x2^2*y2^2 +x2^2 +y2^2 +1) e1 e2 ?_
    grind
  refine Z.of_mul hp (Z.not_mul hp (Z.not_mul hp d1 d1) (Z.not_mul hp d2 d2)) ?_
  generalize 1 + d*x1*x2*y1*y2 = A at *
  generalize 1 - d*x1*x2*y1*y2 = B at *
  generalize x1*y2 + y1*x2 = N at *
  generalize y1*y2 - x1*x2 = M at *
  refine Z.lin3 1 ((x3*A + N)*(B^2 - d*(y3*B)^2)) ((y3*B + M)*(A^2 - d*N^2)) key hx hy ?_
  grind

set_option maxHeartbeats 2000000 in
theorem sum_assoc {x1 y1 x2 y2 x3 y3 x4 y4 x5 y5 x6 y6 x7 y7 : Int} (e1 : On p d x1 y1) (e2 : On p d x2 y2) (e3 : On p d x3 y3)
    (h12 : Sum p d x1 y1 x2 y2 x4 y4) (h43 : Sum p d x4 y4 x3 y3 x6 y6) (h23 : Sum p d x2 y2 x3 y3 x5 y5) (h15 : Sum p d x1 y1 x5 y5 x7 y7) : Z p (x6 - x7) ∧ Z p (y6 - y7) := by
  have e4 := sum_on hp hd h2 e1 e2 h12
  have e5 := sum_on hp hd h2 e2 e3 h23
  have a1 := den1 hp hd h2 e1 e2
  have a2 := den2 hp hd h2 e1 e2
  have b1 := den1 hp hd h2 e2 e3
  have b2 := den2 hp hd h2 e2 e3
  have c1 := den1 hp hd h2 e4 e3
  have c2 := den2 hp hd h2 e4 e3
  have f1 := den1 hp hd h2 e1 e5
  have f2 := den2 hp hd h2 e1 e5
  have kx := key_x e1 e2 e3
  have ky := key_y e1 e2 e3
  obtain ⟨p1, p2⟩ := h12
  obtain ⟨q1, q2⟩ := h23
  obtain ⟨r1, r2⟩ := h43
  obtain ⟨s1, s2⟩ := h15
  generalize hA : 1 + d*x1*x2*y1*y2 = A at *
  generalize hB : 1 - d*x1*x2*y1*y2 = B at *
  generalize hC : 1 + d*x2*x3*y2*y3 = C at *
  generalize hE : 1 - d*x2*x3*y2*y3 = E at *
  generalize hN1 : x1*y2 + y1*x2 = N1 at *
  generalize hN2 : y1*y2 - x1*x2 = N2 at *
  generalize hM1 : x2*y3 + y2*x3 = M1 at *
  generalize hM2 : y2*y3 - x2*x3 = M2 at *
  clear hA hB hC hE hN1 hN2 hM1 hM2 e1 e2 e3 e4 e5
  have n0 := Z.not_mul hp (Z.not_mul hp a1 a2) (Z.not_mul hp b1 b2)
  constructor
  · refine Z.of_mul hp (Z.not_mul hp n0 (Z.not_mul hp c1 f1)) ?_
    have g1 : Z p ((x4*y3+y4*x3)*(1+d*x1*x5*y1*y5)*(A*B*(C*E)) - (N1*B*y3+N2*A*x3)*(C*E+d*x1*y1*M1*M2)) := by
      refine Z.lin4 (y3*B*(C*E)*(1+d*x1*x5*y1*y5)) (x3*A*(C*E)*(1+d*x1*x5*y1*y5)) ((N1*B*y3+N2*A*x3)*d*x1*y1*y5*E) ((N1*B*y3+N2*A*x3)*d*x1*y1*M1) p1 p2 q1 q2 ?_
      grind
    have g2 : Z p ((x1*y5+y1*x5)*(1+d*x4*x3*y4*y3)*(A*B*(C*E)) - (x1*M2*C+y1*M1*E)*(A*B+d*N1*N2*x3*y3)) := by
      refine Z.lin4 ((x1*M2*C+y1*M1*E)*d*x3*y3*y4*B) ((x1*M2*C+y1*M1*E)*d*x3*y3*N1) (y1*E*(A*B)*(1+d*x4*x3*y4*y3)) (x1*C*(A*B)*(1+d*x4*x3*y4*y3)) p1 p2 q1 q2 ?_
      grind
    have g3 : Z p ((A*B*(C*E)) * ((x4*y3+y4*x3)*(1+d*x1*x5*y1*y5) - (x1*y5+y1*x5)*(1+d*x4*x3*y4*y3))) := by
      refine Z.lin3 1 (-1) 1 g1 g2 kx ?_
      grind
    refine Z.lin3 1 (A*B*(C*E)*(1+d*x1*x5*y1*y5)) (-(A*B*(C*E)*(1+d*x4*x3*y4*y3))) g3 r1 s1 ?_
    grind
  · refine Z.of_mul hp (Z.not_mul hp n0 (Z.not_mul hp c2 f2)) ?_
    have g1 : Z p ((y4*y3-x4*x3)*(1-d*x1*x5*y1*y5)*(A*B*(C*E)) - (N2*A*y3-N1*B*x3)*(C*E-d*x1*y1*M1*M2)) := by
      refine Z.lin4 (-x3*B*(C*E)*(1-d*x1*x5*y1*y5)) (y3*A*(C*E)*(1-d*x1*x5*y1*y5)) (-(N2*A*y3-N1*B*x3)*d*x1*y1*y5*E) (-(N2*A*y3-N1*B*x3)*d*x1*y1*M1) p1 p2 q1 q2 ?_
      grind
    have g2 : Z p ((y1*y5-x1*x5)*(1-d*x4*x3*y4*y3)*(A*B*(C*E)) - (y1*M2*C-x1*M1*E)*(A*B-d*N1*N2*x3*y3)) := by
      refine Z.lin4 (-(y1*M2*C-x1*M1*E)*d*x3*y3*y4*B) (-(y1*M2*C-x1*M1*E)*d*x3*y3*N1) (-x1*E*(A*B)*(1-d*x4*x3*y4*y3)) (y1*C*(A*B)*(1-d*x4*x3*y4*y3)) p1 p2 q1 q2 ?_
      grind
    have g3 : Z p ((A*B*(C*E)) * ((y4*y3-x4*x3)*(1-d*x1*x5*y1*y5) - (y1*y5-x1*x5)*(1-d*x4*x3*y4*y3))) := by
      refine Z.lin3 1 (-1) 1 g1 g2 ky ?_
      grind
    refine Z.lin3 1 (A*B*(C*E)*(1-d*x1*x5*y1*y5)) (-(A*B*(C*E)*(1-d*x4*x3*y4*y3))) g3 r2 s2 ?_
    grind
end curve
end Num

namespace Num
/-- A point, its coordinates below p. -/
def Pt (p : Nat) (d : Int) (P : Nat × Nat) : Prop := P.1 < p ∧ P.2 < p ∧ On p d P.1 P.2

open Classical in
/-- The sum of two points. -/
noncomputable def addP (p : Nat) (d : Int) (P Q : Nat × Nat) : Nat × Nat :=
  if h : ∃ q : Nat × Nat, q.1 < p ∧ q.2 < p ∧ Sum p d P.1 P.2 Q.1 Q.2 q.1 q.2 then Classical.choose h else (0, 1)

section group
variable {p : Nat} (hp : Pr p) {d : Int} (hd : Ani p d) (h2 : ¬ Z p 2)
include hp hd h2

theorem addP_spec {P Q : Nat × Nat} (hP : Pt p d P) (hQ : Pt p d Q) : (addP p d P Q).1 < p ∧ (addP p d P Q).2 < p ∧ Sum p d P.1 P.2 Q.1 Q.2 (addP p d P Q).1 (addP p d P Q).2 := by
  have h := exists_sum hp hd h2 hP.2.2 hQ.2.2
  unfold addP
  rw [dif_pos h]
  exact Classical.choose_spec h

theorem addP_pt {P Q : Nat × Nat} (hP : Pt p d P) (hQ : Pt p d Q) : Pt p d (addP p d P Q) := by
  obtain ⟨h1, h3, h4⟩ := addP_spec hp hd h2 hP hQ
  exact ⟨h1, h3, sum_on hp hd h2 hP.2.2 hQ.2.2 h4⟩

theorem addP_eq {P Q R : Nat × Nat} (hP : Pt p d P) (hQ : Pt p d Q) (hR : R.1 < p ∧ R.2 < p) (h : Sum p d P.1 P.2 Q.1 Q.2 R.1 R.2) : addP p d P Q = R := by
  obtain ⟨h1, h3, h4⟩ := addP_spec hp hd h2 hP hQ
  have hu := sum_unique hp hd h2 hP.2.2 hQ.2.2 h4 h
  exact Prod.ext (Z.eq h1 hR.1 hu.1) (Z.eq h3 hR.2 hu.2)

theorem pt_grp : Grp (addP p d) (0, 1) (Pt p d) where
  one := ⟨by have := hp.1; omega, hp.1, by
    show Z p _
    exact (Z.zero p).lin1 0 (by grind)⟩
  cl P Q hP hQ := addP_pt hp hd h2 hP hQ
  assoc P Q R hP hQ hR := by
    have s1 := addP_spec hp hd h2 hP hQ
    have m1 := addP_pt hp hd h2 hP hQ
    have s2 := addP_spec hp hd h2 m1 hR
    have s3 := addP_spec hp hd h2 hQ hR
    have m3 := addP_pt hp hd h2 hQ hR
    have s4 := addP_spec hp hd h2 hP m3
    have h := sum_assoc hp hd h2 hP.2.2 hQ.2.2 hR.2.2 s1.2.2 s2.2.2 s3.2.2 s4.2.2
    exact Prod.ext (Z.eq s2.1 s4.1 h.1) (Z.eq s2.2.1 s4.2.1 h.2)
  comm P Q hP hQ := by
    have s1 := addP_spec hp hd h2 hQ hP
    refine addP_eq hp hd h2 hP hQ ⟨s1.1, s1.2.1⟩ ⟨s1.2.2.1.lin1 1 (by grind), s1.2.2.2.lin1 1 (by grind)⟩
  id P hP := by
    have h1 : Pt p d (0, 1) := ⟨by have := hp.1; show 0 < p; omega, hp.1, by
      show Z p _
      exact (Z.zero p).lin1 0 (by grind)⟩
    refine addP_eq hp hd h2 h1 hP ⟨hP.1, hP.2.1⟩ ⟨?_, ?_⟩
    · exact (Z.zero p).lin1 0 (by grind)
    · exact (Z.zero p).lin1 0 (by grind)
  inv P hP := by
    have h0 : 0 < p := by have := hp.1; omega
    have h1 := res_z h0 (-(P.1 : Int))
    have hm : Pt p d (res p (-(P.1 : Int)), P.2) := by
      refine ⟨res_lt h0 _, hP.2.1, ?_⟩
      refine Z.lin2 1 (((res p (-(P.1 : Int)) : Int) - P.1) * (1 - d * P.2^2)) hP.2.2 h1 ?_
      grind
    refine ⟨_, hm, ?_⟩
    have hm2 := hP.2.2
    refine addP_eq hp hd h2 hm hP ⟨h0, hp.1⟩ ⟨?_, ?_⟩
    · refine Z.lin1 (-P.2) h1 ?_
      grind
    · refine Z.lin2 (-1) ((P.1 : Int) - d * P.1 * P.2^2) hm2 h1 ?_
      grind
end group
end Num

namespace Num
/-- Two numbers tell a point's coordinate on the Montgomery curve: (1 + y) / (1 - y). -/
def Rep (p : Nat) (X W : Int) (P : Nat × Nat) : Prop := Z p (X*(1 - P.2) - W*(1 + P.2)) ∧ ¬ (Z p X ∧ Z p W)

section rep
variable {p : Nat} (hp : Pr p) (h2 : ¬ Z p 2)
include hp h2

theorem rep_scale {X W : Int} {P : Nat × Nat} (h : Rep p X W P) : ∃ l : Int, ¬ Z p l ∧ Z p (X - l*(1 + P.2)) ∧ Z p (W - l*(1 - P.2)) := by
  obtain ⟨i, _, hi⟩ := Z.inv hp h2
  obtain ⟨h, hn⟩ := h
  have h1 : Z p (X - (X + W)*i*(1 + P.2)) := Z.lin2 (i : Int) (-X) h hi (by grind)
  have h3 : Z p (W - (X + W)*i*(1 - P.2)) := Z.lin2 (-(i : Int)) (-W) h hi (by grind)
  refine ⟨(X + W)*i, fun hl => hn ?_, h1, h3⟩
  exact ⟨Z.lin2 1 (1 + P.2 : Int) h1 hl (by grind), Z.lin2 1 (1 - P.2 : Int) h3 hl (by grind)⟩

theorem rep_of {X W l : Int} {P : Nat × Nat} (hl : ¬ Z p l) (hx : Z p (X - l*(1 + P.2))) (hw : Z p (W - l*(1 - P.2))) : Rep p X W P := by
  refine ⟨Z.lin2 (1 - P.2 : Int) (-(1 + P.2 : Int)) hx hw (by grind), fun h => ?_⟩
  refine Z.not_mul hp hl h2 (Z.lin4 (-1) (-1) 1 1 hx hw h.1 h.2 (by grind))
end rep

section ladder
variable {p : Nat} (hp : Pr p) {d : Int} (hd : Ani p d) (h2 : ¬ Z p 2)
include hp hd h2

omit h2 in
theorem one_sub_d : ¬ Z p (1 - d) := fun h => not_one hp (hd 1 1 (h.lin1 1 (by grind)))

/-- A point's double, by its two numbers. -/
theorem rep_double {A X W : Int} {P : Nat × Nat} (hA : Z p (A*(1 - d) - 2*(1 + d))) (hP : Pt p d P) (h : Rep p X W P) :
    Rep p ((X^2 - W^2)^2) (4*X*W*(X^2 + A*X*W + W^2)) (addP p d P P) := by
  obtain ⟨l, hl, hx, hw⟩ := rep_scale hp h2 h
  obtain ⟨_, _, _, hs⟩ := addP_spec hp hd h2 hP hP
  have ec := hP.2.2
  have dn := den2 hp hd h2 hP.2.2 hP.2.2
  have k := one_sub_d hp hd
  generalize (addP p d P P) = Q at *
  obtain ⟨x, y⟩ := P
  obtain ⟨x2, y2⟩ := Q
  unfold Rep
  simp only at *
  generalize (x : Int) = x at *
  generalize (y : Int) = y at *
  generalize (y2 : Int) = y2 at *
  have g1 : Z p ((X^2 - W^2)^2 - 16*l^4*y^2) := by
    refine Z.lin2 ((X + l*(1 + y))*(X^2 - W^2 + 4*l^2*y)) (-(W + l*(1 - y))*(X^2 - W^2 + 4*l^2*y)) hx hw ?_
    grind
  have g2 : Z p ((4*X*W*(X^2 + A*X*W + W^2))*(1 - d) - 16*l^4*(1 - y^2)*(1 - d*y^2)) := by
    refine Z.lin3 (4*X^2*W^2) (-4*W^3*d + 4*W^3 + 8*W^2*X*d + 8*W^2*X + 8*W^2*d*l*y + 8*W^2*d*l + 8*W^2*l*y + 8*W^2*l - 4*W*X^2*d + 4*W*X^2 - 4*W*X*d*l*y - 4*W*X*d*l + 4*W*X*l*y + 4*W*X*l - 4*W*d*l^2*y^2 - 8*W*d*l^2*y - 4*W*d*l^2 + 4*W*l^2*y^2 + 8*W*l^2*y + 4*W*l^2)
      (-4*W^2*d*l*y - 4*W^2*d*l + 4*W^2*l*y + 4*W^2*l + 12*W*d*l^2*y^2 + 16*W*d*l^2*y + 4*W*d*l^2 + 4*W*l^2*y^2 + 16*W*l^2*y + 12*W*l^2 - 16*d*l^3*y^3 - 16*d*l^3*y^2 + 16*l^3*y + 16*l^3) hA hx hw ?_
    grind
  generalize (X^2 - W^2)^2 = X' at *
  generalize 4*X*W*(X^2 + A*X*W + W^2) = W' at *
  have e1 : Z p ((1 + y2)*(1 - d*x*x*y*y) - 2*(1 - x^2)) := Z.lin2 1 1 hs ec (by grind)
  have e2 : Z p ((1 - y2)*(1 - d*x*x*y*y) - 2*(1 - y^2)) := Z.lin2 (-1) 1 hs ec (by grind)
  have g3 : Z p (16*l^4*(y^2*(1 - d)*(2*(1 - y^2)) - (1 - y^2)*(1 - d*y^2)*(2*(1 - x^2)))) := Z.lin1 (16*l^4*(2 - 2*y^2)) ec (by grind)
  refine ⟨?_, fun hz => ?_⟩
  · refine Z.of_mul hp (Z.not_mul hp dn k) ?_
    show Z p ((1 - d*x*x*y*y)*(1 - d)*(X'*(1 - y2) - W'*(1 + y2)))
    have f1 : Z p (X'*(1 - d)*((1 - y2)*(1 - d*x*x*y*y)) - 16*l^4*y^2*(1 - d)*(2*(1 - y^2))) := Z.lin2 ((1 - d)*((1 - y2)*(1 - d*x*x*y*y))) (16*l^4*y^2*(1 - d)) g1 e2 (by grind)
    have f2 : Z p (W'*(1 - d)*((1 + y2)*(1 - d*x*x*y*y)) - 16*l^4*(1 - y^2)*(1 - d*y^2)*(2*(1 - x^2))) := Z.lin2 ((1 + y2)*(1 - d*x*x*y*y)) (16*l^4*(1 - y^2)*(1 - d*y^2)) g2 e1 (by grind)
    exact Z.lin3 1 (-1) 1 f1 f2 g3 (by grind)
  · have n4 : ¬ Z p (16*l^4) := by
      intro hq
      have a2 := Z.not_mul hp h2 h2
      have a3 := Z.not_mul hp hl hl
      exact Z.not_mul hp (Z.not_mul hp a2 a2) (Z.not_mul hp a3 a3) (hq.lin1 1 (by grind))
    have hy : Z p y := Z.sq hp (Z.of_mul hp n4 (Z.lin2 (-1) 1 g1 hz.1 (by grind)))
    exact n4 (Z.lin3 (-1) (1 - d) (16*l^4*(y + d*y - d*y^3)) g2 hz.2 hy (by grind))

/-- A sum, by the two numbers of both points and of their difference. -/
theorem rep_add {u X2 W2 X3 W3 : Int} {P Q : Nat × Nat} (hu : ¬ Z p u) (hP : Pt p d P) (hQ : Pt p d Q) (hu1 : Rep p u 1 P) (h : Rep p X2 W2 Q) (h' : Rep p X3 W3 (addP p d Q P)) :
    Rep p (4*(X2*X3 - W2*W3)^2) (4*u*(X3*W2 - X2*W3)^2) (addP p d Q (addP p d Q P)) := by
  have hR := addP_pt hp hd h2 hQ hP
  have sR := (addP_spec hp hd h2 hQ hP).2.2
  obtain ⟨_, _, sS⟩ := addP_spec hp hd h2 hQ hR
  have G := pt_grp hp hd h2
  have h0 : 0 < p := by have := hp.1; omega
  -- P is the sum of Q's opposite and R
  have hm1 := res_z h0 (-(Q.1 : Int))
  have hm : Pt p d (res p (-(Q.1 : Int)), Q.2) := by
    refine ⟨res_lt h0 _, hQ.2.1, ?_⟩
    exact Z.lin2 1 (((res p (-(Q.1 : Int)) : Int) - Q.1) * (1 - d * Q.2^2)) hQ.2.2 hm1 (by grind)
  have sP : addP p d (res p (-(Q.1 : Int)), Q.2) (addP p d Q P) = P := by
    have e0 : addP p d (res p (-(Q.1 : Int)), Q.2) Q = (0, 1) := by
      have hm2 := hQ.2.2
      refine addP_eq hp hd h2 hm hQ ⟨h0, hp.1⟩ ⟨?_, ?_⟩
      · exact Z.lin1 (-Q.2) hm1 (by grind)
      · exact Z.lin2 (-1) ((Q.1 : Int) - d * Q.1 * Q.2^2) hm2 hm1 (by grind)
    rw [← G.assoc _ _ _ hm hQ hP, e0, G.id _ hP]
  have sP2 : Z p ((P.2 : Int) * (1 + d*Q.1*(addP p d Q P).1*Q.2*(addP p d Q P).2) - (Q.2*(addP p d Q P).2 + Q.1*(addP p d Q P).1)) := by
    have q := (addP_spec hp hd h2 hm hR).2.2.2
    rw [sP] at q
    simp only at q
    refine Z.lin2 1 ((P.2 : Int)*d*(addP p d Q P).1*Q.2*(addP p d Q P).2 - (addP p d Q P).1) q hm1 ?_
    grind
  obtain ⟨l2, hl2, hx2, hw2⟩ := rep_scale hp h2 h
  obtain ⟨l3, hl3, hx3, hw3⟩ := rep_scale hp h2 h'
  have ec2 := hQ.2.2
  have ec3 := hR.2.2
  have dn1 := den1 hp hd h2 hQ.2.2 hR.2.2
  have dn2 := den2 hp hd h2 hQ.2.2 hR.2.2
  obtain ⟨hu1, _⟩ := hu1
  have sS2 := sS.2
  generalize (addP p d Q (addP p d Q P)) = S at *
  clear sR sS sP hm hm1 hR hP hQ h h' G
  generalize (addP p d Q P) = R at *
  obtain ⟨xP, yP⟩ := P
  obtain ⟨x2, y2⟩ := Q
  obtain ⟨x3, y3⟩ := R
  obtain ⟨x5, y5⟩ := S
  unfold Rep
  simp only at *
  generalize (yP : Int) = yP at *
  generalize (x2 : Int) = x2 at *
  generalize (y2 : Int) = y2 at *
  generalize (x3 : Int) = x3 at *
  generalize (y3 : Int) = y3 at *
  generalize (y5 : Int) = y5 at *
  have nP : ¬ Z p (1 - yP) := by
    intro hq
    exact h2 (Z.lin2 (-1) (u + 1) hu1 hq (by grind))
  have f1 : Z p (X2*X3 - W2*W3 - 2*l2*l3*(y2 + y3)) := Z.lin4 X3 (l2*(1 + y2)) (-W3) (-(l2*(1 - y2))) hx2 hx3 hw2 hw3 (by grind)
  have f2 : Z p (X3*W2 - X2*W3 - 2*l2*l3*(y3 - y2)) := Z.lin4 W2 (l3*(1 + y3)) (-W3) (-(l2*(1 + y2))) hx3 hw2 hx2 hw3 (by grind)
  have g1 : Z p (4*(X2*X3 - W2*W3)^2 - 16*l2^2*l3^2*(y2 + y3)^2) := f1.lin1 (4*(X2*X3 - W2*W3 + 2*l2*l3*(y2 + y3))) (by grind)
  have g2 : Z p (4*u*(X3*W2 - X2*W3)^2 - 16*u*l2^2*l3^2*(y3 - y2)^2) := f2.lin1 (4*u*(X3*W2 - X2*W3 + 2*l2*l3*(y3 - y2))) (by grind)
  generalize 4*(X2*X3 - W2*W3)^2 = X5 at *
  generalize 4*u*(X3*W2 - X2*W3)^2 = W5 at *
  have key : Z p ((1+d*x2*x3*y2*y3-y2*y3-x2*x3)*(1-d*x2*x3*y2*y3-y2*y3+x2*x3)*(y2+y3)^2-(1+d*x2*x3*y2*y3+y2*y3+x2*x3)*(1-d*x2*x3*y2*y3+y2*y3-x2*x3)*(y3-y2)^2) :=
    Z.lin2 (4*d*y2*x3^2*y3^3 -4*y2*x3^2*y3) (4*y2^3*y3 -4*y2*y3) ec2 ec3 (by grind)
  have kk : Z p ((1 - yP)*(1 - y5)*(y2 + y3)^2 - (1 + yP)*(1 + y5)*(y3 - y2)^2) := by
    refine Z.of_mul hp (Z.not_mul hp dn1 dn2) ?_
    generalize 1 + d*x2*x3*y2*y3 = D1 at *
    generalize 1 - d*x2*x3*y2*y3 = D2 at *
    have key' : Z p ((D1-y2*y3-x2*x3)*(D2-y2*y3+x2*x3)*(y2+y3)^2-(D1+y2*y3+x2*x3)*(D2+y2*y3-x2*x3)*(y3-y2)^2) := key.lin1 1 (by grind)
    refine Z.lin3 1 (-(y2+y3)^2*(1 - y5)*D2 - (y3-y2)^2*(1+y5)*D2) (-(y2+y3)^2*(D1-y2*y3-x2*x3) - (y3-y2)^2*(D1+y2*y3+x2*x3)) key' sP2 sS2 ?_
    grind
  refine ⟨?_, fun hz => ?_⟩
  · refine Z.of_mul hp nP ?_
    show Z p ((1 - yP)*(X5*(1 - y5) - W5*(1 + y5)))
    refine Z.lin4 ((1 - yP)*(1 - y5)) (-(1 - yP)*(1 + y5)) (16*l2^2*l3^2) (-(16*l2^2*l3^2*(y3 - y2)^2*(1 + y5))) g1 g2 kk hu1 ?_
    grind
  · have n4 : ¬ Z p (16*l2^2*l3^2) := by
      intro hq
      have a2 := Z.not_mul hp h2 h2
      have a3 := Z.not_mul hp hl2 hl2
      have a4 := Z.not_mul hp hl3 hl3
      exact Z.not_mul hp (Z.not_mul hp a2 a2) (Z.not_mul hp a3 a4) (hq.lin1 1 (by grind))
    have hy : Z p (y2 + y3) := Z.sq hp (Z.of_mul hp n4 (Z.lin2 (-1) 1 g1 hz.1 (by grind)))
    have hy' : Z p (y3 - y2) := Z.sq hp (Z.of_mul hp (Z.not_mul hp n4 hu) (Z.lin2 (-1) 1 g2 hz.2 (by grind)))
    have k2 : Z p y2 := Z.of_mul hp h2 (Z.lin2 1 (-1) hy hy' (by grind))
    have k3 : Z p y3 := Z.of_mul hp h2 (Z.lin2 1 1 hy hy' (by grind))
    have kP : Z p (yP - x2*x3) := Z.lin2 1 (-(yP*d*x2*x3*y3) + y3) sP2 k2 (by grind)
    have q2 : Z p (x2^2 - 1) := Z.lin2 1 (-y2 + d*x2^2*y2) ec2 k2 (by grind)
    have q3 : Z p (x3^2 - 1) := Z.lin2 1 (-y3 + d*x3^2*y3) ec3 k3 (by grind)
    have qP : Z p ((1 - yP)*(1 + yP)) := Z.lin3 (-(yP + x2*x3)) (-x3^2) (-1) kP q2 q3 (by grind)
    have qq : Z p (1 + yP) := Z.of_mul hp nP qP
    exact hu (Z.of_mul hp h2 (Z.lin2 1 (u + 1) hu1 qq (by grind)))
end ladder
end Num

namespace Num
theorem Z.pow {p : Nat} {a b : Int} (h : Z p (a - b)) : ∀ n : Nat, Z p (a^n - b^n)
  | 0 => (Z.zero p).lin1 0 (by simp)
  | n + 1 => by
    refine Z.lin2 (a) (b^n) (Z.pow h n) h ?_
    rw [Int.pow_succ, Int.pow_succ]; grind

theorem fermatZ {p : Nat} (hp : Pr p) {a : Int} (ha : ¬ Z p a) : Z p (a^(p - 1) - 1) := by
  have h0 : 0 < p := by have := hp.1; omega
  have hr := res_z h0 a
  have hm : res p a % p ≠ 0 := by
    rw [Nat.mod_eq_of_lt (res_lt h0 a)]
    intro e
    rw [e] at hr
    exact ha (hr.lin1 (-1) (by grind))
  have hf := fermat hp hm
  have h1 := Z.mod p (res p a ^ (p - 1))
  rw [hf] at h1
  have h3 := Z.pow hr (p - 1)
  push_cast at h1
  exact Z.lin2 (-1) (-1) h1 h3 (by grind)

section
variable {p : Nat} (hp : Pr p) {k : Nat} (hk : p = 8 * k + 5) (h2 : ¬ Z p 2)
include hp hk

omit hk in
/-- What to half of the group's order is 1 is a square. -/
theorem qr_of {i t : Int} (hi : Z p (i*i + 1)) (hq : Z p (t^(4*k + 2) - 1)) : ∃ s : Int, Z p (s*s - t) := by
  have e1 : t^(4*k + 2) = t^(2*k + 1) * t^(2*k + 1) := by rw [← Int.pow_add]; congr 1; omega
  have e2 : t^(k + 1) * t^(k + 1) = t * t^(2*k + 1) := by rw [← Int.pow_add, ← Int.pow_succ']; congr 1; omega
  rw [e1] at hq
  generalize t^(2*k + 1) = c at *
  generalize t^(k + 1) = s at *
  rcases Z.euclid hp (a := c - 1) (b := c + 1) (hq.lin1 1 (by grind)) with h | h
  · exact ⟨s, h.lin1 t (by grind)⟩
  · exact ⟨i * s, Z.lin2 (-t) (s*s) h hi (by grind)⟩

theorem half_pow {t : Int} (ht : ¬ Z p t) : Z p (t^(4*k + 2) - 1) ∨ Z p (t^(4*k + 2) + 1) := by
  have h := fermatZ hp ht
  have e1 : t^(p - 1) = t^(4*k + 2) * t^(4*k + 2) := by rw [← Int.pow_add]; congr 1; omega
  rw [e1] at h
  exact Z.euclid hp (h.lin1 1 (by grind))

/-- A number or d times it is a square. -/
theorem qr_or {i d t : Int} (hi : Z p (i*i + 1)) (hd : Z p (d^(4*k + 2) + 1)) (ht : ¬ Z p t) : (∃ s : Int, Z p (s*s - t)) ∨ ∃ s : Int, Z p (s*s - d*t) := by
  rcases half_pow hp hk ht with h | h
  · exact Or.inl (qr_of hp hi h)
  · have hdn : ¬ Z p d := by
      intro hz
      have : Z p (d^(4*k + 2)) := by rw [Int.pow_succ]; exact hz.lin1 _ rfl
      exact not_one hp (Z.lin2 1 (-1) hd this (by grind))
    refine Or.inr (qr_of (k := k) hp hi ?_)
    rw [Int.mul_pow]
    exact Z.lin2 (t^(4*k + 2)) (-1) hd h (by grind)

include h2 in
theorem ani_of {d : Int} (hd : Z p (d^(4*k + 2) + 1)) : Ani p d := by
  intro a b h
  refine Classical.byContradiction fun hb => ?_
  have hdn : ¬ Z p d := by
    intro hz
    have : Z p (d^(4*k + 2)) := by rw [Int.pow_succ]; exact hz.lin1 _ rfl
    exact not_one hp (Z.lin2 1 (-1) hd this (by grind))
  have ha : ¬ Z p a := by
    intro hz
    exact Z.not_mul hp hdn (Z.not_mul hp hb hb) (Z.lin2 (-1) a h hz (by grind))
  have h3 := Z.pow (a := a*a) (b := d*(b*b)) h (4*k + 2)
  have e : ∀ x : Int, (x*x)^(4*k + 2) = x^(p - 1) := by
    intro x
    rw [Int.mul_pow, ← Int.pow_add]; congr 1; omega
  rw [e a, Int.mul_pow (a := d), e b] at h3
  have fa := fermatZ hp ha
  have fb := fermatZ hp hb
  generalize a^(p - 1) = x at *
  generalize b^(p - 1) = y at *
  generalize d^(4*k + 2) = z at *
  exact h2 (Z.lin4 (-1) (y) (1) (-1) fa hd h3 fb (by grind))
end
end Num

namespace Num
open Classical in
/-- The roots of a x² = b. -/
noncomputable def roots (p : Nat) (a b : Int) : List Nat := (List.range p).filter (fun x => decide (Z p (a*x*x - b)))

theorem mem_roots {p x : Nat} {a b : Int} : x ∈ roots p a b ↔ x < p ∧ Z p (a*x*x - b) := by
  simp [roots]

theorem roots_nodup (p : Nat) (a b : Int) : (roots p a b).Nodup := List.Pairwise.filter _ List.nodup_range

theorem roots_length {p : Nat} {a b : Int} (l : List Nat) (hl : l.Nodup) (h : ∀ x, x ∈ l ↔ x < p ∧ Z p (a*x*x - b)) : (roots p a b).length = l.length :=
  Nat.le_antisymm (length_le_of_subset _ _ (roots_nodup p a b) fun x hx => (h x).2 (mem_roots.1 hx)) (length_le_of_subset _ _ hl fun x hx => mem_roots.2 ((h x).1 hx))

section
variable {p : Nat} (hp : Pr p) (h2 : ¬ Z p 2)
include hp

theorem roots_one {a b : Int} (ha : ¬ Z p a) (hb : Z p b) : (roots p a b).length = 1 := by
  have h0 : 0 < p := by have := hp.1; omega
  refine roots_length [0] (by simp) fun x => ?_
  rw [List.mem_singleton]
  constructor
  · rintro rfl
    exact ⟨h0, hb.lin1 (-1) (by simp)⟩
  · rintro ⟨hx, hz⟩
    have h1 : Z p ((x : Int) * x) := Z.of_mul hp ha (Z.lin2 1 1 hz hb (by grind))
    have h3 := Z.sq hp h1
    exact Nat.eq_zero_of_dvd_of_lt (Z.nat.1 h3) hx

omit hp in
theorem roots_none {a b : Int} (h : ¬ ∃ s : Int, Z p (a*s*s - b)) : (roots p a b).length = 0 := by
  refine roots_length [] (by simp) fun x => ⟨fun hx => by simp at hx, fun hx => (h ⟨x, hx.2⟩).elim⟩

include h2 in
theorem roots_two {a b : Int} (ha : ¬ Z p a) (hb : ¬ Z p b) (h : ∃ s : Int, Z p (a*s*s - b)) : (roots p a b).length = 2 := by
  have h0 : 0 < p := by have := hp.1; omega
  obtain ⟨s, hs⟩ := h
  have r1 := res_z h0 s
  have l1 := res_lt h0 s
  have r2 := res_z h0 (-s)
  have l2 := res_lt h0 (-s)
  have hs0 : ¬ Z p s := fun hz => hb (Z.lin2 (-1) (a*s) hs hz (by grind))
  refine roots_length [res p s, res p (-s)] ?_ fun x => ?_
  · simp only [List.nodup_cons, List.mem_singleton, List.not_mem_nil, not_false_eq_true, List.nodup_nil, and_true]
    intro e
    rw [← e] at r2
    exact Z.not_mul hp h2 hs0 (Z.lin2 (-1) 1 r1 r2 (by grind))
  · simp only [List.mem_cons, List.not_mem_nil, or_false]
    constructor
    · rintro (rfl | rfl)
      · exact ⟨l1, Z.lin2 (a*(res p s + s)) 1 r1 hs (by grind)⟩
      · exact ⟨l2, Z.lin2 (a*(res p (-s) - s)) 1 r2 hs (by grind)⟩
    · rintro ⟨hx, hz⟩
      have h1 : Z p (((x : Int) - s) * (x + s)) := Z.of_mul hp ha (Z.lin2 1 (-1) hz hs (by grind))
      rcases Z.euclid hp h1 with h3 | h3
      · exact Or.inl (Z.eq hx l1 (Z.lin2 1 (-1) h3 r1 (by grind)))
      · exact Or.inr (Z.eq hx l2 (Z.lin2 1 (-1) h3 r2 (by grind)))
end

/-- How many points a curve has at each y. -/
noncomputable def col (p : Nat) (d : Int) (y : Nat) : List Nat := roots p (1 - d*y*y) (1 - y*y)

/-- The points of the curve. -/
noncomputable def points (p : Nat) (d : Int) : List (Nat × Nat) := (List.range p).flatMap fun y => (col p d y).map fun x => (x, y)

theorem mem_points {p : Nat} {d : Int} {P : Nat × Nat} : P ∈ points p d ↔ Pt p d P := by
  obtain ⟨x, y⟩ := P
  simp only [points, List.mem_flatMap, List.mem_range, List.mem_map, Prod.mk.injEq, col, mem_roots]
  constructor
  · rintro ⟨y', hy, x', ⟨hx, hz⟩, rfl, rfl⟩
    exact ⟨hx, hy, hz.lin1 1 (by grind)⟩
  · rintro ⟨hx, hy, hz⟩
    have hz' : Z p _ := hz
    exact ⟨y, hy, x, ⟨hx, hz'.lin1 1 (by simp only; grind)⟩, rfl, rfl⟩

theorem points_nodup (p : Nat) (d : Int) : (points p d).Nodup := by
  unfold points List.Nodup
  rw [List.pairwise_flatMap]
  constructor
  · intro y _
    refine List.Pairwise.map _ ?_ (roots_nodup p _ _)
    intro a b hab e
    exact hab (Prod.mk.inj e).1
  · refine List.Pairwise.imp ?_ List.nodup_range
    intro y z hyz a ha b hb e
    obtain ⟨a', _, rfl⟩ := List.mem_map.1 ha
    obtain ⟨b', _, rfl⟩ := List.mem_map.1 hb
    exact hyz (Prod.mk.inj e).2

theorem points_length (p : Nat) (d : Int) : (points p d).length = ((List.range p).map fun y => (col p d y).length).sum := by
  unfold points
  rw [List.length_flatMap]
  congr 1
  refine List.map_congr_left fun y _ => by simp

theorem sum_add (l : List Nat) (f g : Nat → Nat) : (l.map f).sum + (l.map g).sum = (l.map fun x => f x + g x).sum := by
  induction l with
  | nil => rfl
  | cons a t ih => simp only [List.map_cons, List.sum_cons]; omega

theorem sum_const (l : List Nat) (f : Nat → Nat) (c : Nat) (h : ∀ x, x ∈ l → f x = c) : (l.map f).sum = c * l.length := by
  induction l with
  | nil => simp
  | cons a t ih =>
    simp only [List.map_cons, List.sum_cons, List.length_cons]
    rw [h a (by simp), ih fun x hx => h x (by simp [hx]), Nat.mul_succ, Nat.add_comm]

theorem range_units {p : Nat} (hp : 0 < p) : List.range p = 0 :: unitsOf p := by
  obtain ⟨q, rfl⟩ : ∃ q, p = q + 1 := ⟨p - 1, by omega⟩
  rw [List.range_eq_range', List.range'_succ]; rfl

section
variable {p : Nat} (hp : Pr p) (h2 : ¬ Z p 2) {k : Nat} (hk : p = 8 * k + 5) {i d e : Int} (hi : Z p (i*i + 1)) (hd : Z p (d^(4*k + 2) + 1)) (hde : Z p (d*e - 1))
include hp h2 hk hi hd hde

/-- The points of the two curves at y and at 1/y are two. -/
theorem col_two {y z : Nat} (hyz : Z p ((y : Int)*z - 1)) : (col p d y).length + (col p e z).length = 2 := by
  have ha := ani_of hp hk h2 hd
  have hy : ¬ Z p (y : Int) := fun h => not_one hp (Z.lin2 (-1) z hyz h (by grind))
  have hdn : ¬ Z p d := fun h => not_one hp (Z.lin2 (-1) e hde h (by grind))
  have hA : ¬ Z p (1 - d*y*y) := fun h => hy (ha 1 y (h.lin1 1 (by grind)))
  have h3 : (col p e z).length = (roots p (1 - d*y*y) (d*(1 - y*y))).length := by
    unfold col
    refine roots_length _ (roots_nodup p _ _) fun x => ?_
    rw [mem_roots]
    refine and_congr_right fun _ => ⟨fun h => ?_, fun h => ?_⟩
    · refine Z.of_mul hp (Z.not_mul hp hdn (Z.not_mul hp hy hy)) ?_
      refine Z.lin3 (-1) (-(x*x*((y : Int)*z)^2)) (((y : Int)*z + 1)*(d - x*x)) h hde hyz ?_
      grind
    · refine Z.lin4 (-(d*(y*y))) (-(x*x*((y : Int)*z)^2)) (((y : Int)*z + 1)*(d - x*x)) 0 h hde hyz (Z.zero p) ?_
      grind
  rw [h3]
  unfold col
  by_cases hb : Z p (1 - (y : Int)*y)
  · rw [roots_one hp hA hb, roots_one hp hA (hb.lin1 d (by grind))]
  · have hdb := Z.not_mul hp hdn hb
    by_cases hq : ∃ s : Int, Z p ((1 - d*y*y)*s*s - (1 - y*y))
    · rw [roots_two hp h2 hA hb hq, roots_none]
      rintro ⟨t, ht⟩
      obtain ⟨s, hs⟩ := hq
      have hs0 : ¬ Z p s := fun hz => hb (Z.lin2 (-1) ((1 - d*y*y)*s) hs hz (by grind))
      exact hs0 (ha t s (Z.of_mul hp hA (Z.lin2 1 (-d) ht hs (by grind))))
    · rw [roots_none hq, roots_two hp h2 hA hdb]
      obtain ⟨j, _, hj⟩ := Z.inv hp hA
      rcases qr_or hp hk hi hd (Z.not_mul hp hA hb) with ⟨s, hs⟩ | ⟨s, hs⟩
      · exfalso
        refine hq ⟨s * j, ?_⟩
        refine Z.lin2 ((1 - d*y*y)*j*j) (((1 - d*y*y)*j + 1)*(1 - y*y)) hs hj ?_
        grind
      · refine ⟨s * j, ?_⟩
        refine Z.lin2 ((1 - d*y*y)*j*j) (((1 - d*y*y)*j + 1)*(d*(1 - y*y))) hs hj ?_
        grind

/-- The points of both curves together. -/
theorem both : (points p d).length + (points p e).length = 2 * p + 2 := by
  have h0 : 0 < p := by have := hp.1; omega
  have inv : ∀ y : Nat, ∃ z : Nat, y ∈ unitsOf p → z ∈ unitsOf p ∧ Z p ((y : Int)*z - 1) := by
    intro y
    by_cases hy : y ∈ unitsOf p
    · have hm := mem_unitsOf.1 hy
      have hn : ¬ Z p (y : Int) := fun h => by
        have := Nat.le_of_dvd hm.1 (Z.nat.1 h); omega
      obtain ⟨z, hz, e1⟩ := Z.inv hp hn
      refine ⟨z, fun _ => ⟨mem_unitsOf.2 ⟨Nat.pos_of_ne_zero fun e0 => ?_, hz⟩, e1⟩⟩
      subst e0
      exact not_one hp (e1.lin1 (-1) (by grind))
    · exact ⟨0, fun h => (hy h).elim⟩
  have hex : ∃ f : Nat → Nat, ∀ y, y ∈ unitsOf p → f y ∈ unitsOf p ∧ Z p ((y : Int)*f y - 1) := ⟨fun y => Classical.choose (inv y), fun y => Classical.choose_spec (inv y)⟩
  obtain ⟨f, hf⟩ := hex
  have nd : (unitsOf p).Nodup := List.nodup_range'
  have hperm : ((unitsOf p).map f).Perm (unitsOf p) := by
    refine perm_of_subset _ _ ?_ ?_ (by simp)
    · refine List.Pairwise.map _ ?_ (List.Pairwise.and_mem.1 nd)
      intro a b hab he
      have ea := (hf a hab.1).2
      have eb := (hf b hab.2.1).2
      rw [he] at ea
      have hfb : ¬ Z p (f b : Int) := fun h => not_one hp (Z.lin2 (-1) b eb h (by grind))
      exact hab.2.2 (Z.eq (mem_unitsOf.1 hab.1).2 (mem_unitsOf.1 hab.2.1).2 (Z.of_mul hp hfb (Z.lin2 1 (-1) ea eb (by grind))))
    · intro x hx
      obtain ⟨y, hy, rfl⟩ := List.mem_map.1 hx
      exact (hf y hy).1
  have hz : ∀ d' : Int, (col p d' 0).length = 2 := by
    intro d'
    unfold col
    refine roots_two hp h2 ?_ ?_ ⟨1, (Z.zero p).lin1 0 (by grind)⟩
    · intro h; exact not_one hp (h.lin1 1 (by grind))
    · intro h; exact not_one hp (h.lin1 1 (by grind))
  rw [points_length, points_length, range_units h0]
  simp only [List.map_cons, List.sum_cons]
  rw [hz, hz]
  have hs : ((unitsOf p).map fun y => (col p e y).length).sum = ((unitsOf p).map fun y => (col p e (f y)).length).sum := by
    rw [← (hperm.map fun y => (col p e y).length).sum_nat, List.map_map]; rfl
  rw [hs]
  have h3 := sum_add (unitsOf p) (fun y => (col p d y).length) (fun y => (col p e (f y)).length)
  rw [sum_const _ _ 2 fun y hy => col_two hp h2 hk hi hd hde (hf y hy).2] at h3
  have h4 : (unitsOf p).length = p - 1 := by simp [unitsOf]
  rw [h4] at h3
  omega
end
end Num

namespace Num
/-- A difference modulo p. -/
def fsub (p a b : Nat) : Nat := (a + (p - b % p)) % p

theorem fsub_z {p : Nat} (hp : 0 < p) (a b : Nat) : Z p ((fsub p a b : Int) - (a - b)) := by
  unfold fsub
  have h := Z.mod p (a + (p - b % p))
  have h1 := Z.mod p b
  have h3 : b % p < p := Nat.mod_lt _ hp
  have h4 : ((a + (p - b % p) : Nat) : Int) = a + (p - (b % p : Nat)) := by omega
  rw [h4] at h
  have h5 : Z p (p : Int) := Int.dvd_refl _
  exact Z.lin3 1 (-1) 1 h h1 h5 (by grind)

/-- A point's double by two numbers (RFC 7748). -/
def dblN (p : Nat) (x z : Nat) : Nat × Nat :=
  let a := (x + z) % p
  let c := fsub p x z
  let aa := a * a % p
  let bb := c * c % p
  let e := fsub p aa bb
  (aa * bb % p, e * ((aa + 121665 * e % p) % p) % p)

/-- A sum by the numbers of both points and of their difference (RFC 7748). -/
def addN (p : Nat) (u x2 z2 x3 z3 : Nat) : Nat × Nat :=
  let a := (x2 + z2) % p
  let c := fsub p x2 z2
  let da := fsub p x3 z3 * a % p
  let cb := (x3 + z3) % p * c % p
  let x := (da + cb) % p
  let y := fsub p da cb
  (x * x % p, u * (y * y % p) % p)

theorem Z.trans {p : Nat} {a b c : Int} (h : Z p (a - b)) (h' : Z p (b - c)) : Z p (a - c) := Z.lin2 1 1 h h' (by grind)
theorem Z.mulc {p : Nat} {a b c d : Int} (h : Z p (a - b)) (h' : Z p (c - d)) : Z p (a*c - b*d) := Z.lin2 c b h h' (by grind)
theorem Z.addc {p : Nat} {a b c d : Int} (h : Z p (a - b)) (h' : Z p (c - d)) : Z p (a + c - (b + d)) := Z.lin2 1 1 h h' (by grind)
theorem Z.subc {p : Nat} {a b c d : Int} (h : Z p (a - b)) (h' : Z p (c - d)) : Z p (a - c - (b - d)) := Z.lin2 1 (-1) h h' (by grind)
theorem Z.rfl' {p : Nat} (a : Int) : Z p (a - a) := (Z.zero p).lin1 0 (by grind)
theorem Z.modmul {p : Nat} {a b : Nat} {c d : Int} (h : Z p (a - c)) (h' : Z p (b - d)) : Z p ((a * b % p : Nat) - c*d) := (Z.mod p (a*b)).trans (by push_cast; exact h.mulc h')
theorem Z.modadd {p : Nat} {a b : Nat} {c d : Int} (h : Z p (a - c)) (h' : Z p (b - d)) : Z p (((a + b) % p : Nat) - (c + d)) := (Z.mod p (a+b)).trans (by push_cast; exact h.addc h')
theorem Z.modsub {p : Nat} (hp : 0 < p) {a b : Nat} {c d : Int} (h : Z p (a - c)) (h' : Z p (b - d)) : Z p ((fsub p a b : Int) - (c - d)) := (fsub_z hp a b).trans (h.subc h')

theorem dblN_z {p : Nat} (hp : 0 < p) (x z : Nat) : Z p (((dblN p x z).1 : Int) - ((x : Int)^2 - z^2)^2) ∧ Z p (((dblN p x z).2 : Int) - 4*x*z*((x : Int)^2 + 486662*x*z + z^2)) := by
  have a := Z.modadd (Z.rfl' (p := p) (x : Int)) (Z.rfl' (z : Int))
  have c := Z.modsub hp (Z.rfl' (x : Int)) (Z.rfl' (z : Int))
  have aa := Z.modmul a a
  have bb := Z.modmul c c
  have e := Z.modsub hp aa bb
  have k := Z.modmul (Z.rfl' (p := p) ((121665 : Nat) : Int)) e
  have f := Z.modadd aa k
  have r1 := Z.modmul aa bb
  have r2 := Z.modmul e f
  refine ⟨r1.lin1 1 ?_, r2.lin1 1 ?_⟩
  · simp only [dblN]; grind
  · simp only [dblN]; grind

theorem addN_z {p : Nat} (hp : 0 < p) (u x2 z2 x3 z3 : Nat) : Z p (((addN p u x2 z2 x3 z3).1 : Int) - 4*((x2 : Int)*x3 - z2*z3)^2) ∧ Z p (((addN p u x2 z2 x3 z3).2 : Int) - 4*u*((x3 : Int)*z2 - x2*z3)^2) := by
  have a := Z.modadd (Z.rfl' (p := p) (x2 : Int)) (Z.rfl' (z2 : Int))
  have c := Z.modsub hp (Z.rfl' (x2 : Int)) (Z.rfl' (z2 : Int))
  have a3 := Z.modadd (Z.rfl' (p := p) (x3 : Int)) (Z.rfl' (z3 : Int))
  have c3 := Z.modsub hp (Z.rfl' (x3 : Int)) (Z.rfl' (z3 : Int))
  have da := Z.modmul c3 a
  have cb := Z.modmul a3 c
  have x := Z.modadd da cb
  have y := Z.modsub hp da cb
  have xx := Z.modmul x x
  have yy := Z.modmul y y
  have r2 := Z.modmul (Z.rfl' (p := p) (u : Int)) yy
  refine ⟨xx.lin1 1 ?_, r2.lin1 1 ?_⟩
  · simp only [addN]; grind
  · simp only [addN]; grind

/-- The ladder's state: two points by two numbers each, and whether they stand exchanged. -/
structure Lad where
  x2 : Nat
  z2 : Nat
  x3 : Nat
  z3 : Nat
  last : Bool

/-- A step of the ladder. -/
def Lad.step (p u : Nat) (s : Lad) (b : Bool) : Lad :=
  if Bool.xor b s.last then
    { x2 := (dblN p s.x3 s.z3).1, z2 := (dblN p s.x3 s.z3).2, x3 := (addN p u s.x3 s.z3 s.x2 s.z2).1, z3 := (addN p u s.x3 s.z3 s.x2 s.z2).2, last := b }
  else
    { x2 := (dblN p s.x2 s.z2).1, z2 := (dblN p s.x2 s.z2).2, x3 := (addN p u s.x2 s.z2 s.x3 s.z3).1, z3 := (addN p u s.x2 s.z2 s.x3 s.z3).2, last := b }

/-- The ladder's state behind so many bits, the highest (number 254) first. -/
def lad (p u k : Nat) : Nat → Lad
  | 0 => { x2 := 1, z2 := 0, x3 := u, z3 := 1, last := false }
  | j + 1 => (lad p u k j).step p u (k.testBit (254 - j))

theorem Rep.congr {p : Nat} {X W X' W' : Int} {P : Nat × Nat} (h : Rep p X W P) (hx : Z p (X' - X)) (hw : Z p (W' - W)) : Rep p X' W' P := by
  refine ⟨Z.lin3 1 (1 - P.2 : Int) (-(1 + P.2 : Int)) h.1 hx hw (by grind), fun hz => h.2 ⟨?_, ?_⟩⟩
  · exact Z.lin2 1 (-1) hz.1 hx (by grind)
  · exact Z.lin2 1 (-1) hz.2 hw (by grind)

theorem Rep.scale {p : Nat} {s X W : Int} {P : Nat × Nat} (hs : s*s = 1) (h : Rep p X W P) : Rep p (s*X) (s*W) P := by
  refine ⟨h.1.lin1 s (by grind), fun hz => h.2 ⟨?_, ?_⟩⟩
  · exact hz.1.lin1 s (by grind)
  · exact hz.2.lin1 s (by grind)

section
variable {p : Nat} (hp : Pr p) {d : Int} (hd : Ani p d) (h2 : ¬ Z p 2) {s : Int} (hs : s*s = 1) (hA : Z p (s*486662*(1 - d) - 2*(1 + d)))
include hp hd h2 hs hA

theorem dbl_rep {x z : Nat} {P : Nat × Nat} (hP : Pt p d P) (h : Rep p (s*x) z P) : Rep p (s*(dblN p x z).1) (dblN p x z).2 (addP p d P P) := by
  have h0 : 0 < p := by have := hp.1; omega
  obtain ⟨e1, e2⟩ := dblN_z h0 x z
  have r := (rep_double hp hd h2 hA hP h).scale hs
  refine r.congr (e1.lin1 s ?_) (e2.lin1 1 ?_)
  · have : (s * (x : Int))^2 = (x : Int)^2 := by grind
    rw [this]; grind
  · grind

omit hA in
theorem add_rep {u x2 z2 x3 z3 : Nat} {P Q : Nat × Nat} (hu : ¬ Z p (u : Int)) (hP : Pt p d P) (hQ : Pt p d Q) (hu1 : Rep p (s*u) 1 P) (h : Rep p (s*x2) z2 Q) (h' : Rep p (s*x3) z3 (addP p d Q P)) :
    Rep p (s*(addN p u x2 z2 x3 z3).1) (addN p u x2 z2 x3 z3).2 (addP p d Q (addP p d Q P)) := by
  have h0 : 0 < p := by have := hp.1; omega
  obtain ⟨e1, e2⟩ := addN_z h0 u x2 z2 x3 z3
  have hsu : ¬ Z p (s*u) := fun h => hu (h.lin1 s (by grind))
  have r := (rep_add hp hd h2 hsu hP hQ hu1 h h').scale hs
  refine r.congr (e1.lin1 s ?_) (e2.lin1 1 ?_) <;> grind

omit hA in
/-- The ladder's other order: the points stand exchanged. -/
theorem add_rep' {u x2 z2 x3 z3 : Nat} {P Q : Nat × Nat} (hu : ¬ Z p (u : Int)) (hP : Pt p d P) (hQ : Pt p d Q) (hu1 : Rep p (s*u) 1 P) (h : Rep p (s*x2) z2 Q) (h' : Rep p (s*x3) z3 (addP p d Q P)) :
    Rep p (s*(addN p u x3 z3 x2 z2).1) (addN p u x3 z3 x2 z2).2 (addP p d Q (addP p d Q P)) := by
  have h0 : 0 < p := by have := hp.1; omega
  obtain ⟨e1, e2⟩ := addN_z h0 u x3 z3 x2 z2
  have hsu : ¬ Z p (s*u) := fun h => hu (h.lin1 s (by grind))
  have r := (rep_add hp hd h2 hsu hP hQ hu1 h h').scale hs
  refine r.congr (e1.lin1 s ?_) (e2.lin1 1 ?_) <;> grind

/-- What the ladder holds: the multiples of the point that the bits so far tell. -/
theorem lad_rep {u k : Nat} {P : Nat × Nat} (hu : ¬ Z p (u : Int)) (hP : Pt p d P) (hu1 : Rep p (s*u) 1 P) (hk : k < 2^255) : ∀ j, j ≤ 255 →
    (if (lad p u k j).last then
      Rep p (s*(lad p u k j).x3) (lad p u k j).z3 (npow (addP p d) (0, 1) P (k / 2^(255 - j))) ∧ Rep p (s*(lad p u k j).x2) (lad p u k j).z2 (npow (addP p d) (0, 1) P (k / 2^(255 - j) + 1))
    else
      Rep p (s*(lad p u k j).x2) (lad p u k j).z2 (npow (addP p d) (0, 1) P (k / 2^(255 - j))) ∧ Rep p (s*(lad p u k j).x3) (lad p u k j).z3 (npow (addP p d) (0, 1) P (k / 2^(255 - j) + 1)))
  | 0, _ => by
    have G := pt_grp hp hd h2
    have hz : k / 2^(255 - 0) = 0 := Nat.div_eq_of_lt hk
    rw [hz]
    simp only [lad, Bool.false_eq_true, if_false]
    refine ⟨⟨?_, fun h => ?_⟩, ?_⟩
    · exact (Z.zero p).lin1 0 (by simp [npow])
    · have h3 : Z p (s * ((1 : Nat) : Int)) := h.1
      exact not_one hp (h3.lin1 s (by grind))
    · have : npow (addP p d) (0, 1) P (0 + 1) = P := by
        show addP p d P (0, 1) = P
        rw [G.comm _ _ hP G.one, G.id _ hP]
      rw [this]; exact hu1
  | j + 1, hj => by
    have G := pt_grp hp hd h2
    have ih := lad_rep hu hP hu1 hk j (by omega)
    have hdiv : k / 2^(255 - (j + 1)) = 2 * (k / 2^(255 - j)) + if k.testBit (254 - j) then 1 else 0 := by
      have e1 : 255 - (j + 1) = 254 - j := by omega
      have e2 : 255 - j = (254 - j) + 1 := by omega
      rw [e1, e2, Nat.pow_succ, ← Nat.div_div_eq_div_mul]
      have := Nat.div_add_mod (k / 2^(254 - j)) 2
      rw [Nat.testBit_eq_decide_div_mod_eq]
      by_cases hb : k / 2^(254 - j) % 2 = 1
      · simp [hb]; omega
      · simp [hb]; omega
    rw [hdiv]
    generalize hn : k / 2^(255 - j) = n at *
    have hQ : Pt p d (npow (addP p d) (0, 1) P n) := npow_mem G P hP n
    have hsucc : npow (addP p d) (0, 1) P (n + 1) = addP p d (npow (addP p d) (0, 1) P n) P := by
      show addP p d P _ = _
      rw [G.comm _ _ hP hQ]
    have hR : Pt p d (npow (addP p d) (0, 1) P (n + 1)) := npow_mem G P hP (n + 1)
    have d0 : npow (addP p d) (0, 1) P (2 * n) = addP p d (npow (addP p d) (0, 1) P n) (npow (addP p d) (0, 1) P n) := by
      rw [Nat.two_mul, npow_add G P hP]
    have d1 : npow (addP p d) (0, 1) P (2 * n + 1) = addP p d (npow (addP p d) (0, 1) P n) (addP p d (npow (addP p d) (0, 1) P n) P) := by
      rw [show 2 * n + 1 = n + (n + 1) from by omega, npow_add G P hP, hsucc]
    have d2 : npow (addP p d) (0, 1) P (2 * n + 1 + 1) = addP p d (npow (addP p d) (0, 1) P (n + 1)) (npow (addP p d) (0, 1) P (n + 1)) := by
      rw [show 2 * n + 1 + 1 = (n + 1) + (n + 1) from by omega, npow_add G P hP]
    rw [hsucc] at ih hR d2
    generalize npow (addP p d) (0, 1) P n = Q at *
    have hl : lad p u k (j + 1) = (lad p u k j).step p u (k.testBit (254 - j)) := rfl
    rw [hl]
    generalize lad p u k j = st at ih
    obtain ⟨x2, z2, x3, z3, last⟩ := st
    cases k.testBit (254 - j) <;> cases last <;> simp only [Lad.step, Bool.xor_false, Bool.xor_true, Bool.not_false, Bool.not_true, Bool.false_eq_true, if_false, if_true, Nat.add_zero] at ih ⊢
    · rw [d0, d1]
      exact ⟨dbl_rep hp hd h2 hs hA hQ ih.1, add_rep hp hd h2 hs hu hP hQ hu1 ih.1 ih.2⟩
    · rw [d0, d1]
      exact ⟨dbl_rep hp hd h2 hs hA hQ ih.1, add_rep hp hd h2 hs hu hP hQ hu1 ih.1 ih.2⟩
    · rw [d1, d2]
      exact ⟨add_rep' hp hd h2 hs hu hP hQ hu1 ih.1 ih.2, dbl_rep hp hd h2 hs hA hR ih.2⟩
    · rw [d1, d2]
      exact ⟨add_rep' hp hd h2 hs hu hP hQ hu1 ih.1 ih.2, dbl_rep hp hd h2 hs hA hR ih.2⟩
end
end Num
