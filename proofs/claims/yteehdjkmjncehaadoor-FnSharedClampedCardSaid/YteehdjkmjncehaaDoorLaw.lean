
/-
  The arithmetic of the element functions: what the chains of sums and products come to, modulo 2^255 - 19. No program is spoken of.
-/
import Derived.Test.YteehdjkmjncehaaDoorEl
namespace Go.Proofs.YteehdjkmjncehaaDoor

/-- The prime 2^255 - 19. -/
def p25 : Nat := 57896044618658097711785492504343953926634992332820282019728792003956564819949

/-- Four numbers of 64 bits as one number. -/
def V4 (a b c d : Nat) : Nat := a + 18446744073709551616 * b + 340282366920938463463374607431768211456 * c + 6277101735386680763835789423207666416102355444464034512896 * d
/-- 2^256. -/
def Q : Nat := 115792089237316195423570985008687907853269984665640564039457584007913129639936

theorem V4_lt {a b c d : Nat} (ha : a < 18446744073709551616) (hb : b < 18446744073709551616) (hc : c < 18446744073709551616) (hd : d < 18446744073709551616) : V4 a b c d < Q := by
  unfold V4 Q; omega

theorem add4 {x0 x1 x2 x3 y0 y1 y2 y3 c s0 s1 s2 s3 d0 d1 d2 d3 : Nat} (h0 : AddE x0 y0 c s0 d0) (h1 : AddE x1 y1 d0 s1 d1) (h2 : AddE x2 y2 d1 s2 d2) (h3 : AddE x3 y3 d2 s3 d3) :
    V4 s0 s1 s2 s3 + Q * d3 = V4 x0 x1 x2 x3 + V4 y0 y1 y2 y3 + c ∧ V4 s0 s1 s2 s3 < Q ∧ d3 ≤ 1 := by
  refine ⟨?_, V4_lt h0.1 h1.1 h2.1 h3.1, h3.2.1⟩
  have e0 := h0.2.2
  have e1 := h1.2.2
  have e2 := h2.2.2
  have e3 := h3.2.2
  clear h0 h1 h2 h3
  unfold V4 Q; omega

theorem sub4 {x0 x1 x2 x3 y0 y1 y2 y3 c s0 s1 s2 s3 d0 d1 d2 d3 : Nat} (h0 : SubE x0 y0 c s0 d0) (h1 : SubE x1 y1 d0 s1 d1) (h2 : SubE x2 y2 d1 s2 d2) (h3 : SubE x3 y3 d2 s3 d3) :
    V4 x0 x1 x2 x3 + Q * d3 = V4 s0 s1 s2 s3 + V4 y0 y1 y2 y3 + c ∧ V4 s0 s1 s2 s3 < Q ∧ d3 ≤ 1 := by
  refine ⟨?_, V4_lt h0.1 h1.1 h2.1 h3.1, h3.2.1⟩
  have e0 := h0.2.2
  have e1 := h1.2.2
  have e2 := h2.2.2
  have e3 := h3.2.2
  clear h0 h1 h2 h3
  unfold V4 Q; omega

/-- The last correction of a sum: 38 is added where the sum went beyond 2^256 once more. -/
theorem last38 {s0 s1 s2 s3 c z u S : Nat} (h : V4 s0 s1 s2 s3 + Q * c = S) (hS : S < Q + 18446744073709551578) (hc : c ≤ 1) (h0 : s0 < 18446744073709551616) (e : AddE s0 (38 * c) 0 z u) :
    V4 z s1 s2 s3 = V4 s0 s1 s2 s3 + 38 * c := by
  have e0 := e.2.2
  have e1 := e.2.1
  have : u = 0 := by
    have h2 : c = 0 ∨ c = 1 := by omega
    have h3 : s0 ≤ V4 s0 s1 s2 s3 := by unfold V4; omega
    generalize V4 s0 s1 s2 s3 = V at *
    unfold Q at *
    rcases h2 with rfl | rfl <;> omega
  subst this
  unfold V4; omega

/-- The last correction of a difference. -/
theorem last38' {s0 s1 s2 s3 c d z u S : Nat} (h : S + Q * c = V4 s0 s1 s2 s3 + 38 * d) (hS : d ≤ 1) (hc : c ≤ 1) (h0 : s0 < 18446744073709551616) (h1 : s1 < 18446744073709551616) (h2 : s2 < 18446744073709551616) (h3 : s3 < 18446744073709551616) (e : SubE s0 (38 * c) 0 z u) :
    V4 z s1 s2 s3 + 38 * c = V4 s0 s1 s2 s3 := by
  have e0 := e.2.2
  have e1 := e.2.1
  have e2 := e.1
  have : u = 0 := by
    have h2 : c = 0 ∨ c = 1 := by omega
    unfold V4 Q at *
    rcases h2 with rfl | rfl
    · omega
    · have : s3 = 18446744073709551615 := by omega
      have : s2 = 18446744073709551615 := by omega
      have : s1 = 18446744073709551615 := by omega
      omega
  subst this
  unfold V4; omega

theorem mod_of {r a k : Nat} (h : a = r + p25 * k) : r % p25 = a % p25 := by rw [h, Nat.add_mul_mod_self_left]
theorem Q_eq : Q = 2 * p25 + 38 := by decide +kernel

/-- One row of a product: what was gathered so far, and a number of 256 bits times one of 64. -/
theorem mulrow {x0 x1 x2 x3 y a0 a1 a2 a3 h0 h1 h2 h3 l0 l1 l2 l3 z c0 c1 c2 c3 g0 g1 g2 g3 u b0 b1 b2 b3 d0 d1 d2 d3 : Nat}
    (hx0 : x0 < 18446744073709551616) (hx1 : x1 < 18446744073709551616) (hx2 : x2 < 18446744073709551616) (hx3 : x3 < 18446744073709551616) (hy : y < 18446744073709551616)
    (ha0 : a0 < 18446744073709551616) (ha1 : a1 < 18446744073709551616) (ha2 : a2 < 18446744073709551616) (ha3 : a3 < 18446744073709551616)
    (m0 : MulE x0 y h0 l0) (m1 : MulE x1 y h1 l1) (m2 : MulE x2 y h2 l2) (m3 : MulE x3 y h3 l3)
    (e0 : AddE a0 l0 0 z c0) (e1 : AddE h0 l1 c0 g0 c1) (e2 : AddE h1 l2 c1 g1 c2) (e3 : AddE h2 l3 c2 g2 c3) (e4 : AddE h3 0 c3 g3 u)
    (f0 : AddE a1 g0 0 b0 d0) (f1 : AddE a2 g1 d0 b1 d1) (f2 : AddE a3 g2 d1 b2 d2) (f3 : AddE 0 g3 d2 b3 d3) :
    z + 18446744073709551616 * V4 b0 b1 b2 b3 = V4 a0 a1 a2 a3 + V4 x0 x1 x2 x3 * y := by
  have hA := V4_lt ha0 ha1 ha2 ha3
  have hX := V4_lt hx0 hx1 hx2 hx3
  have hm : V4 x0 x1 x2 x3 * y = x0 * y + 18446744073709551616 * (x1 * y) + 340282366920938463463374607431768211456 * (x2 * y) + 6277101735386680763835789423207666416102355444464034512896 * (x3 * y) := by unfold V4; grind
  have hp : V4 x0 x1 x2 x3 * y ≤ (Q - 1) * 18446744073709551615 := Nat.mul_le_mul (by omega) (by omega)
  have m0 := m0.2.2
  have m1 := m1.2.2
  have m2 := m2.2.2
  have m3 := m3.2.2
  have e0 := e0.2.2
  have e1 := e1.2.2
  have e2 := e2.2.2
  have e3 := e3.2.2
  have e4 := e4.2.2
  have f0 := f0.2.2
  have f1 := f1.2.2
  have f2 := f2.2.2
  have f3 := f3.2.2
  have key : z + 18446744073709551616 * V4 b0 b1 b2 b3 + 18446744073709551616 * Q * (u + d3) = V4 a0 a1 a2 a3 + V4 x0 x1 x2 x3 * y := by
    rw [hm]
    generalize x0 * y = p0 at *
    generalize x1 * y = p1 at *
    generalize x2 * y = p2 at *
    generalize x3 * y = p3 at *
    clear hx0 hx1 hx2 hx3 hy ha0 ha1 ha2 ha3 hA hX hm hp
    unfold V4 Q; omega
  generalize V4 x0 x1 x2 x3 * y = P at *
  generalize V4 a0 a1 a2 a3 = A at *
  generalize V4 b0 b1 b2 b3 = B at *
  have : u + d3 = 0 := by
    clear hm m0 m1 m2 m3 e0 e1 e2 e3 e4 f0 f1 f2 f3
    unfold Q at *
    omega
  rw [this, Nat.mul_zero, Nat.add_zero] at key
  exact key

theorem mulrow0 {x0 x1 x2 x3 y h0 h1 h2 h3 l0 l1 l2 l3 c0 c1 c2 u b0 b1 b2 b3 : Nat}
    (hx0 : x0 < 18446744073709551616) (hx1 : x1 < 18446744073709551616) (hx2 : x2 < 18446744073709551616) (hx3 : x3 < 18446744073709551616) (hy : y < 18446744073709551616)
    (m0 : MulE x0 y h0 l0) (m1 : MulE x1 y h1 l1) (m2 : MulE x2 y h2 l2) (m3 : MulE x3 y h3 l3)
    (e1 : AddE h0 l1 0 b0 c0) (e2 : AddE h1 l2 c0 b1 c1) (e3 : AddE h2 l3 c1 b2 c2) (e4 : AddE h3 0 c2 b3 u) :
    l0 + 18446744073709551616 * V4 b0 b1 b2 b3 = V4 x0 x1 x2 x3 * y := by
  have hX := V4_lt hx0 hx1 hx2 hx3
  have hm : V4 x0 x1 x2 x3 * y = x0 * y + 18446744073709551616 * (x1 * y) + 340282366920938463463374607431768211456 * (x2 * y) + 6277101735386680763835789423207666416102355444464034512896 * (x3 * y) := by unfold V4; grind
  have hp : V4 x0 x1 x2 x3 * y ≤ (Q - 1) * 18446744073709551615 := Nat.mul_le_mul (by omega) (by omega)
  have m0 := m0.2.2
  have m1 := m1.2.2
  have m2 := m2.2.2
  have m3 := m3.2.2
  have e1 := e1.2.2
  have e2 := e2.2.2
  have e3 := e3.2.2
  have e4 := e4.2.2
  have key : l0 + 18446744073709551616 * V4 b0 b1 b2 b3 + 18446744073709551616 * Q * u = V4 x0 x1 x2 x3 * y := by
    rw [hm]
    generalize x0 * y = p0 at *
    generalize x1 * y = p1 at *
    generalize x2 * y = p2 at *
    generalize x3 * y = p3 at *
    clear hx0 hx1 hx2 hx3 hy hX hm hp
    unfold V4 Q; omega
  generalize V4 x0 x1 x2 x3 * y = P at *
  generalize V4 b0 b1 b2 b3 = B at *
  have : u = 0 := by
    clear hm m0 m1 m2 m3 e1 e2 e3 e4
    unfold Q at *
    omega
  rw [this, Nat.mul_zero, Nat.add_zero] at key
  exact key

/-- What stands beyond 2^256 counts 38 times. -/
theorem red_law {x0 x1 x2 x3 x4 x5 x6 x7 h0 h1 h2 h3 l0 l1 l2 l3 b1 b2 b3 b4 c0 c1 c2 u m0 m1 m2 m3 m4 d0 d1 d2 d3 u' w l4 n0 n1 n2 n3 f0 f1 f2 f3 z u'' : Nat}
    (hx0 : x0 < 18446744073709551616) (hx1 : x1 < 18446744073709551616) (hx2 : x2 < 18446744073709551616) (hx3 : x3 < 18446744073709551616) (hx4 : x4 < 18446744073709551616) (hx5 : x5 < 18446744073709551616) (hx6 : x6 < 18446744073709551616) (hx7 : x7 < 18446744073709551616)
    (p0 : MulE x4 38 h0 l0) (p1 : MulE x5 38 h1 l1) (p2 : MulE x6 38 h2 l2) (p3 : MulE x7 38 h3 l3)
    (e1 : AddE h0 l1 0 b1 c0) (e2 : AddE h1 l2 c0 b2 c1) (e3 : AddE h2 l3 c1 b3 c2) (e4 : AddE h3 0 c2 b4 u)
    (g0 : AddE l0 x0 0 m0 d0) (g1 : AddE b1 x1 d0 m1 d1) (g2 : AddE b2 x2 d1 m2 d2) (g3 : AddE b3 x3 d2 m3 d3) (g4 : AddE b4 0 d3 m4 u')
    (q : MulE m4 38 w l4)
    (k0 : AddE m0 l4 0 n0 f0) (k1 : AddE m1 0 f0 n1 f1) (k2 : AddE m2 0 f1 n2 f2) (k3 : AddE m3 0 f2 n3 f3) (k4 : AddE n0 (38 * f3) 0 z u'') :
    V4 z n1 n2 n3 % p25 = (V4 x0 x1 x2 x3 + Q * V4 x4 x5 x6 x7) % p25 := by
  have r := mulrow0 hx4 hx5 hx6 hx7 (by decide) p0 p1 p2 p3 e1 e2 e3 e4
  have a := add4 g0 g1 g2 g3
  have b := add4 k0 k1 k2 k3
  have hL := V4_lt hx0 hx1 hx2 hx3
  have hH := V4_lt hx4 hx5 hx6 hx7
  -- l0 + B b = b's four and b4
  have e : l0 + 18446744073709551616 * V4 b1 b2 b3 b4 = V4 l0 b1 b2 b3 + Q * b4 := by unfold V4 Q; omega
  have hl : V4 l0 b1 b2 b3 < Q := V4_lt p0.2.1 e1.1 e2.1 e3.1
  have z4 : V4 l4 0 0 0 = l4 := by unfold V4; omega
  have zz : V4 m0 m1 m2 m3 = V4 m0 m1 m2 m3 := rfl
  have g4' := g4.2.2
  have g4'' := g4.2.1
  have q' := q.2.2
  have q'' := q.2.1
  have hu : u' = 0 := by
    clear k0 k1 k2 k3 k4 b q q' q'' g0 g1 g2 g3 p0 p1 p2 p3 e1 e2 e3 e4
    generalize V4 x4 x5 x6 x7 = H at *
    generalize V4 l0 b1 b2 b3 = L at *
    generalize V4 b1 b2 b3 b4 = L' at *
    unfold Q at *
    omega
  have hm4 : m4 ≤ 38 := by
    clear k0 k1 k2 k3 k4 b q q' q'' g0 g1 g2 g3 p0 p1 p2 p3 e1 e2 e3 e4
    generalize V4 x4 x5 x6 x7 = H at *
    generalize V4 l0 b1 b2 b3 = L at *
    generalize V4 b1 b2 b3 b4 = L' at *
    unfold Q at *
    omega
  have hw : w = 0 ∧ l4 = 38 * m4 := by
    clear k0 k1 k2 k3 k4 b g0 g1 g2 g3 p0 p1 p2 p3 e1 e2 e3 e4 r a hL hH e hl z4
    omega
  have last := last38 (c := f3) b.1 (by
    rw [z4]
    have := a.2.1
    omega) b.2.2 k0.1 k4
  rw [last]
  have k : V4 x0 x1 x2 x3 + Q * V4 x4 x5 x6 x7 = (V4 n0 n1 n2 n3 + 38 * f3) + p25 * (2 * V4 x4 x5 x6 x7 + 2 * m4 + 2 * f3) := by
    have bb1 := b.1
    have aa1 := a.1
    rw [z4] at bb1
    clear k0 k1 k2 k3 k4 b g0 g1 g2 g3 p0 p1 p2 p3 e1 e2 e3 e4 last hL hH hl q q' q''
    generalize V4 x4 x5 x6 x7 = H at *
    generalize V4 l0 b1 b2 b3 = L at *
    generalize V4 b1 b2 b3 b4 = L' at *
    generalize V4 m0 m1 m2 m3 = M at *
    generalize V4 n0 n1 n2 n3 = N at *
    generalize V4 x0 x1 x2 x3 = X at *
    unfold Q p25 at *
    omega
  exact mod_of k

theorem mul_sum {X Y y0 y1 y2 y3 l0 z1 z2 z3 A0 A1 A2 A3 : Nat} (hY : Y = V4 y0 y1 y2 y3) (r0 : l0 + 18446744073709551616 * A0 = X * y0) (r1 : z1 + 18446744073709551616 * A1 = A0 + X * y1)
    (r2 : z2 + 18446744073709551616 * A2 = A1 + X * y2) (r3 : z3 + 18446744073709551616 * A3 = A2 + X * y3) : V4 l0 z1 z2 z3 + Q * A3 = X * Y := by
  have hm : X * Y = X * y0 + 18446744073709551616 * (X * y1) + 340282366920938463463374607431768211456 * (X * y2) + 6277101735386680763835789423207666416102355444464034512896 * (X * y3) := by rw [hY]; unfold V4; grind
  rw [hm]
  generalize X * y0 = p0 at *
  generalize X * y1 = p1 at *
  generalize X * y2 = p2 at *
  generalize X * y3 = p3 at *
  clear hY hm
  unfold V4 Q; omega

/-- A square, by its products. -/
theorem sqr_sum {x0 x1 x2 x3 h0 a0 h1 l1 h2 l2 h3 l3 h4 l4 h l a1 c0 a2 c1 a3 c2 a4 c3 a5 u1 a2' c0' a3' c1' a4' c2' a5' c3' a6 u2 a0'' d0 a1'' d1 a2'' d2 a3'' d3 a4'' d4 a5'' d5 a6'' u3 b0 b1 b2 b3 b4 b5 b6 b7 b1' f0 b2' f1 b3' f2 b4' f3 b5' f4 b6' f5 b7' u4 : Nat}
    (hx0 : x0 < 18446744073709551616) (hx1 : x1 < 18446744073709551616) (hx2 : x2 < 18446744073709551616) (hx3 : x3 < 18446744073709551616)
    (p0 : MulE x0 x1 h0 a0) (p1 : MulE x0 x2 h1 l1) (p2 : MulE x0 x3 h2 l2) (p3 : MulE x3 x1 h3 l3) (p4 : MulE x3 x2 h4 l4) (p5 : MulE x1 x2 h l)
    (e0 : AddE l1 h0 0 a1 c0) (e1 : AddE l2 h1 c0 a2 c1) (e2 : AddE l3 h2 c1 a3 c2) (e3 : AddE l4 h3 c2 a4 c3) (e4 : AddE h4 0 c3 a5 u1)
    (e5 : AddE a2 l 0 a2' c0') (e6 : AddE a3 h c0' a3' c1') (e7 : AddE a4 0 c1' a4' c2') (e8 : AddE a5 0 c2' a5' c3') (e9 : AddE 0 0 c3' a6 u2)
    (g0 : AddE a0 a0 0 a0'' d0) (g1 : AddE a1 a1 d0 a1'' d1) (g2 : AddE a2' a2' d1 a2'' d2) (g3 : AddE a3' a3' d2 a3'' d3) (g4 : AddE a4' a4' d3 a4'' d4) (g5 : AddE a5' a5' d4 a5'' d5) (g6 : AddE a6 a6 d5 a6'' u3)
    (q0 : MulE x0 x0 b1 b0) (q1 : MulE x1 x1 b3 b2) (q2 : MulE x2 x2 b5 b4) (q3 : MulE x3 x3 b7 b6)
    (k0 : AddE b1 a0'' 0 b1' f0) (k1 : AddE b2 a1'' f0 b2' f1) (k2 : AddE b3 a2'' f1 b3' f2) (k3 : AddE b4 a3'' f2 b4' f3) (k4 : AddE b5 a4'' f3 b5' f4) (k5 : AddE b6 a5'' f4 b6' f5) (k6 : AddE b7 a6'' f5 b7' u4) :
    V4 b0 b1' b2' b3' + Q * V4 b4' b5' b6' b7' = V4 x0 x1 x2 x3 * V4 x0 x1 x2 x3 := by
  have hX := V4_lt hx0 hx1 hx2 hx3
  have hp : V4 x0 x1 x2 x3 * V4 x0 x1 x2 x3 ≤ (Q - 1) * (Q - 1) := Nat.mul_le_mul (by omega) (by omega)
  have hm : V4 x0 x1 x2 x3 * V4 x0 x1 x2 x3 = x0 * x0 + 18446744073709551616 * (2 * (x0 * x1)) + 340282366920938463463374607431768211456 * (2 * (x0 * x2) + x1 * x1) + 6277101735386680763835789423207666416102355444464034512896 * (2 * (x0 * x3) + 2 * (x1 * x2))
      + Q * (2 * (x3 * x1) + x2 * x2) + Q * 18446744073709551616 * (2 * (x3 * x2)) + Q * 340282366920938463463374607431768211456 * (x3 * x3) := by unfold V4 Q; grind
  -- the carries that are thrown away are nought, or weigh too much
  have u1z : u1 = 0 := by
    have h1 := e4.2.2
    have h2 := p4.2.2
    have h3 := e4.2.1
    have h4 : x3 * x2 ≤ 18446744073709551615 * 18446744073709551615 := Nat.mul_le_mul (by omega) (by omega)
    have h5 := e3.2.1
    have h6 := p4.1
    omega
  have key : V4 b0 b1' b2' b3' + Q * V4 b4' b5' b6' b7' + Q * Q * (u4 + u3 + 2 * u2) = V4 x0 x1 x2 x3 * V4 x0 x1 x2 x3 := by
    rw [hm]
    have p0 := p0.2.2
    have p1 := p1.2.2
    have p2 := p2.2.2
    have p3 := p3.2.2
    have p4 := p4.2.2
    have p5 := p5.2.2
    have q0 := q0.2.2
    have q1 := q1.2.2
    have q2 := q2.2.2
    have q3 := q3.2.2
    have e0 := e0.2.2
    have e1 := e1.2.2
    have e2 := e2.2.2
    have e3 := e3.2.2
    have e4 := e4.2.2
    have e5 := e5.2.2
    have e6 := e6.2.2
    have e7 := e7.2.2
    have e8 := e8.2.2
    have e9 := e9.2.2
    have g0 := g0.2.2
    have g1 := g1.2.2
    have g2 := g2.2.2
    have g3 := g3.2.2
    have g4 := g4.2.2
    have g5 := g5.2.2
    have g6 := g6.2.2
    have k0 := k0.2.2
    have k1 := k1.2.2
    have k2 := k2.2.2
    have k3 := k3.2.2
    have k4 := k4.2.2
    have k5 := k5.2.2
    have k6 := k6.2.2
    subst u1z
    rw [p0, p1, p2, p3, p4, p5, q0, q1, q2, q3]
    clear hp hm hX hx0 hx1 hx2 hx3 p0 p1 p2 p3 p4 p5 q0 q1 q2 q3
    unfold V4 Q; omega
  generalize V4 x0 x1 x2 x3 * V4 x0 x1 x2 x3 = P at *
  generalize V4 b0 b1' b2' b3' = L at *
  generalize V4 b4' b5' b6' b7' = H at *
  have hz : u4 + u3 + 2 * u2 = 0 := by
    clear hm e0 e1 e2 e3 e4 e5 e6 e7 e8 e9 g0 g1 g2 g3 g4 g5 g6 k0 k1 k2 k3 k4 k5 k6 p0 p1 p2 p3 p4 p5 q0 q1 q2 q3
    unfold Q at *
    omega
  rw [hz, Nat.mul_zero, Nat.add_zero] at key
  exact key

theorem V4_limb (v : Nat) (h : v < 2 ^ 256) : V4 (limb v 0) (limb v 1) (limb v 2) (limb v 3) = v := by
  have := limb_sum v h
  unfold V4; omega

/-- The law of addGeneric. -/
theorem add_law {x0 x1 x2 x3 y0 y1 y2 y3 s0 s1 s2 s3 c0 c1 c2 c3 t0 t1 t2 t3 d0 d1 d2 d3 z u : Nat}
    (h0 : AddE x0 y0 0 s0 c0) (h1 : AddE x1 y1 c0 s1 c1) (h2 : AddE x2 y2 c1 s2 c2) (h3 : AddE x3 y3 c2 s3 c3)
    (g0 : AddE s0 (38 * c3) 0 t0 d0) (g1 : AddE s1 0 d0 t1 d1) (g2 : AddE s2 0 d1 t2 d2) (g3 : AddE s3 0 d2 t3 d3) (e : AddE t0 (38 * d3) 0 z u) :
    V4 z t1 t2 t3 % p25 = (V4 x0 x1 x2 x3 + V4 y0 y1 y2 y3) % p25 := by
  have a := add4 h0 h1 h2 h3
  have b := add4 g0 g1 g2 g3
  have z4 : V4 (38 * c3) 0 0 0 = 38 * c3 := by unfold V4; omega
  have l := last38 (c := d3) b.1 (by
    rw [z4]
    have := a.2.1
    have := a.2.2
    omega) b.2.2 g0.1 e
  rw [l]
  refine mod_of (k := 2 * c3 + 2 * d3) ?_
  have a1 := a.1
  have b1 := b.1
  rw [z4] at b1
  have := Q_eq
  clear a b l h0 h1 h2 h3 g0 g1 g2 g3 e
  generalize V4 s0 s1 s2 s3 = S at *
  generalize V4 t0 t1 t2 t3 = T at *
  generalize V4 x0 x1 x2 x3 = X at *
  generalize V4 y0 y1 y2 y3 = Y at *
  unfold Q p25 at *
  omega

/-- The law of subGeneric. -/
theorem sub_law {x0 x1 x2 x3 y0 y1 y2 y3 s0 s1 s2 s3 c0 c1 c2 c3 t0 t1 t2 t3 d0 d1 d2 d3 z u : Nat}
    (h0 : SubE x0 y0 0 s0 c0) (h1 : SubE x1 y1 c0 s1 c1) (h2 : SubE x2 y2 c1 s2 c2) (h3 : SubE x3 y3 c2 s3 c3)
    (g0 : SubE s0 (38 * c3) 0 t0 d0) (g1 : SubE s1 0 d0 t1 d1) (g2 : SubE s2 0 d1 t2 d2) (g3 : SubE s3 0 d2 t3 d3) (e : SubE t0 (38 * d3) 0 z u) :
    (V4 z t1 t2 t3 + V4 y0 y1 y2 y3) % p25 = V4 x0 x1 x2 x3 % p25 := by
  have a := sub4 h0 h1 h2 h3
  have b := sub4 g0 g1 g2 g3
  have z4 : V4 (38 * c3) 0 0 0 = 38 * c3 := by unfold V4; omega
  have b1 := b.1
  rw [z4] at b1
  have l := last38' (S := V4 s0 s1 s2 s3) (d := c3) (c := d3) (by omega) a.2.2 b.2.2 g0.1 g1.1 g2.1 g3.1 e
  refine (mod_of (k := 2 * c3 + 2 * d3) ?_).symm
  have a1 := a.1
  have := Q_eq
  clear a b h0 h1 h2 h3 g0 g1 g2 g3 e
  generalize V4 s0 s1 s2 s3 = S at *
  generalize V4 t0 t1 t2 t3 = T at *
  generalize V4 z t1 t2 t3 = R at *
  generalize V4 x0 x1 x2 x3 = X at *
  generalize V4 y0 y1 y2 y3 = Y at *
  unfold Q p25 at *
  omega

/-- The law of mulA24Generic. -/
theorem a24_law {x0 x1 x2 x3 h0 h1 h2 h3 l0 l1 l2 l3 b1 b2 b3 b4 c0 c1 c2 u w l4 n0 n1 n2 n3 f0 f1 f2 f3 z u'' : Nat}
    (hx0 : x0 < 18446744073709551616) (hx1 : x1 < 18446744073709551616) (hx2 : x2 < 18446744073709551616) (hx3 : x3 < 18446744073709551616)
    (p0 : MulE x0 121666 h0 l0) (p1 : MulE x1 121666 h1 l1) (p2 : MulE x2 121666 h2 l2) (p3 : MulE x3 121666 h3 l3)
    (e1 : AddE h0 l1 0 b1 c0) (e2 : AddE h1 l2 c0 b2 c1) (e3 : AddE h2 l3 c1 b3 c2) (e4 : AddE h3 0 c2 b4 u)
    (q : MulE b4 38 w l4)
    (k0 : AddE l0 l4 0 n0 f0) (k1 : AddE b1 0 f0 n1 f1) (k2 : AddE b2 0 f1 n2 f2) (k3 : AddE b3 0 f2 n3 f3) (k4 : AddE n0 (38 * f3) 0 z u'') :
    V4 z n1 n2 n3 % p25 = (V4 x0 x1 x2 x3 * 121666) % p25 := by
  have r := mulrow0 hx0 hx1 hx2 hx3 (by decide) p0 p1 p2 p3 e1 e2 e3 e4
  have b := add4 k0 k1 k2 k3
  have hX := V4_lt hx0 hx1 hx2 hx3
  have e : l0 + 18446744073709551616 * V4 b1 b2 b3 b4 = V4 l0 b1 b2 b3 + Q * b4 := by unfold V4 Q; omega
  have hl : V4 l0 b1 b2 b3 < Q := V4_lt p0.2.1 e1.1 e2.1 e3.1
  have z4 : V4 l4 0 0 0 = l4 := by unfold V4; omega
  have q' := q.2.2
  have q'' := q.2.1
  have hm4 : b4 ≤ 121666 := by
    clear k0 k1 k2 k3 k4 b q q' q'' p0 p1 p2 p3 e1 e2 e3 e4
    generalize V4 x0 x1 x2 x3 = X at *
    generalize V4 l0 b1 b2 b3 = L at *
    generalize V4 b1 b2 b3 b4 = L' at *
    unfold Q at *
    omega
  have hw : w = 0 ∧ l4 = 38 * b4 := by
    clear k0 k1 k2 k3 k4 b p0 p1 p2 p3 e1 e2 e3 e4 r hX e hl z4
    omega
  have last := last38 (c := f3) b.1 (by
    rw [z4]
    omega) b.2.2 k0.1 k4
  rw [last]
  refine mod_of (k := 2 * b4 + 2 * f3) ?_
  have bb := b.1
  rw [z4] at bb
  clear k0 k1 k2 k3 k4 b p0 p1 p2 p3 e1 e2 e3 e4 last q q' q'' hl hX
  generalize V4 l0 b1 b2 b3 = L at *
  generalize V4 b1 b2 b3 b4 = L' at *
  generalize V4 n0 n1 n2 n3 = N at *
  generalize V4 x0 x1 x2 x3 = X at *
  unfold Q p25 at *
  omega

/-- The law of modpGeneric: t and t' are the two highest bits that are taken off. -/
theorem modp_law {x0 x1 x2 x3 t s0 s1 s2 s3 c0 c1 c2 c3 y3 t' z0 z1 z2 z3 d0 d1 d2 d3 : Nat}
    (hx0 : x0 < 18446744073709551616) (hx1 : x1 < 18446744073709551616) (hx2 : x2 < 18446744073709551616) (hx3 : x3 < 9223372036854775808) (ht : t ≤ 1)
    (h0 : AddE x0 (19 + 19 * t) 0 s0 c0) (h1 : AddE x1 0 c0 s1 c1) (h2 : AddE x2 0 c1 s2 c2) (h3 : AddE x3 0 c2 s3 c3)
    (hs : s3 = y3 + 9223372036854775808 * t') (hy3 : y3 < 9223372036854775808) (ht' : t' ≤ 1)
    (g0 : SubE s0 (19 - 19 * t') 0 z0 d0) (g1 : SubE s1 0 d0 z1 d1) (g2 : SubE s2 0 d1 z2 d2) (g3 : SubE y3 0 d2 z3 d3) :
    V4 z0 z1 z2 z3 = V4 x0 x1 x2 (x3 + 9223372036854775808 * t) % p25 := by
  have a := add4 h0 h1 h2 h3
  have b := sub4 g0 g1 g2 g3
  have z4 : V4 (19 + 19 * t) 0 0 0 = 19 + 19 * t := by unfold V4; omega
  have z5 : V4 (19 - 19 * t') 0 0 0 = 19 - 19 * t' := by unfold V4; omega
  have eX : V4 x0 x1 x2 (x3 + 9223372036854775808 * t) = V4 x0 x1 x2 x3 + 57896044618658097711785492504343953926634992332820282019728792003956564819968 * t := by unfold V4; omega
  have eS : V4 s0 s1 s2 s3 = V4 s0 s1 s2 y3 + 57896044618658097711785492504343953926634992332820282019728792003956564819968 * t' := by rw [hs]; unfold V4; omega
  have hX : V4 x0 x1 x2 x3 < 57896044618658097711785492504343953926634992332820282019728792003956564819968 := by unfold V4; omega
  have hS : V4 s0 s1 s2 y3 < 57896044618658097711785492504343953926634992332820282019728792003956564819968 := by
    have := h0.1
    have := h1.1
    have := h2.1
    unfold V4; omega
  have a1 := a.1
  have a3 := a.2.2
  have b1 := b.1
  have b2 := b.2.1
  have b3 := b.2.2
  rw [z4] at a1
  rw [z5] at b1
  clear a b h0 h1 h2 h3 g0 g1 g2 g3 z4 z5 hs hx0 hx1 hx2 hx3 hy3
  rw [eX]
  generalize V4 s0 s1 s2 s3 = S at *
  generalize V4 s0 s1 s2 y3 = S' at *
  generalize V4 z0 z1 z2 z3 = R at *
  generalize V4 x0 x1 x2 x3 = X at *
  clear eX
  unfold Q p25 at *
  have t01 : t = 0 ∨ t = 1 := by omega
  have t01' : t' = 0 ∨ t' = 1 := by omega
  rcases t01 with rfl | rfl <;> rcases t01' with rfl | rfl <;> omega
end Go.Proofs.YteehdjkmjncehaaDoor
