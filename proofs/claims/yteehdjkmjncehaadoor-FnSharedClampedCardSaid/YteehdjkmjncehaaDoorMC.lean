/-
  Plain mathematics: crv, low, isq.
-/
import Derived.Test.YteehdjkmjncehaaDoorMB
namespace Num
/-- The prime 2^255 - 19. -/
def p25 : Nat := 57896044618658097711785492504343953926634992332820282019728792003956564819949
/-- The order of the curve's great subgroup, and of its twist's. -/
def ell : Nat := 7237005577332262213973186563042994240857116359379907606001950938285454250989
def ell' : Nat := 14474011154664524427946373126085988481603263447650325797860494125407373907997
def d1 : Int := 20800338683988658368647408995589388737092878452977063003340006470870624536394
def d2 : Int := 28692721048178265397853269683490922171210976843790175684556505508326675974058
def rm1 : Int := 19681161376707505956807079304988542015446066515923890162744021073123829784752
/-- The prime is 8 * k25 + 5. -/
def k25 : Nat := 7237005577332262213973186563042994240829374041602535252466099000494570602493

theorem p25_pr : Pr p25 := pr_57896044618658097711785492504343953926634992332820282019728792003956564819949
theorem ell_pr : Pr ell := pr_7237005577332262213973186563042994240857116359379907606001950938285454250989
theorem ell_pr' : Pr ell' := pr_14474011154664524427946373126085988481603263447650325797860494125407373907997
theorem Z.of_emod {p : Nat} {a : Int} (h : a % (p : Int) = 0) : Z p a := Int.dvd_of_emod_eq_zero h
theorem Z.emod_of {p : Nat} {a : Int} (h : Z p a) : a % (p : Int) = 0 := Int.emod_eq_zero_of_dvd h
theorem two25 : ¬ Z p25 2 := fun h => absurd (Z.emod_of h) (by decide +kernel)
theorem k25_eq : p25 = 8 * k25 + 5 := by decide +kernel
theorem rm1_z : Z p25 (rm1*rm1 + 1) := Z.of_emod (by decide +kernel)
theorem d12 : Z p25 (d1*d2 - 1) := Z.of_emod (by decide +kernel)
theorem d21 : Z p25 (d2*d1 - 1) := Z.of_emod (by decide +kernel)
theorem A1 : Z p25 (1*486662*(1 - d1) - 2*(1 + d1)) := Z.of_emod (by decide +kernel)
theorem A2 : Z p25 (-1*486662*(1 - d2) - 2*(1 + d2)) := Z.of_emod (by decide +kernel)

theorem Z.pow_nat {p f a e : Nat} (he : e < 2^f) (h : (powM p f a e + 1) % p = 0) : Z p ((a : Int)^e + 1) := by
  rw [powM_eq p f a e he] at h
  have h1 := Z.mod p (a^e)
  have h2 : Z p (((a^e % p + 1 : Nat)) : Int) := Z.nat.2 (Nat.dvd_of_mod_eq_zero h)
  push_cast at h1 h2
  exact Z.lin2 (-1) 1 h1 h2 (by grind)

theorem d1_non : Z p25 (d1^(4*k25 + 2) + 1) := Z.pow_nat (p := p25) (f := 256) (a := 20800338683988658368647408995589388737092878452977063003340006470870624536394) (e := 4*k25 + 2) (by decide +kernel) (by decide +kernel)
theorem d2_non : Z p25 (d2^(4*k25 + 2) + 1) := Z.pow_nat (p := p25) (f := 256) (a := 28692721048178265397853269683490922171210976843790175684556505508326675974058) (e := 4*k25 + 2) (by decide +kernel) (by decide +kernel)
theorem ani1 : Ani p25 d1 := ani_of p25_pr k25_eq two25 d1_non
theorem ani2 : Ani p25 d2 := ani_of p25_pr k25_eq two25 d2_non

/-- A point for a number of which a certain expression is a square. -/
theorem point_of {p : Nat} (hp : Pr p) {d : Int} (hd : Ani p d) (h2 : ¬ Z p 2) {A u s : Int} (hA : Z p (A*(1 - d) - 2*(1 + d))) (hA2 : ¬ Z p (A + 2)) (hu : ¬ Z p u)
    (hs : Z p (s*s - (1 - d)*u*(u^2 + A*u + 1))) : ∃ P, Pt p d P ∧ Rep p u 1 P := by
  have h0 : 0 < p := by have := hp.1; omega
  have k := one_sub_d hp hd
  have hq : ¬ Z p (u^2 + A*u + 1) := by
    intro h
    have e1 : Z p ((1 - d)*((2*u + A)*(2*u + A) - d*((A + 2)*(A + 2)))) := Z.lin2 (4*(1 - d)) ((A + 2)*(1 - d)) h hA (by grind)
    exact hA2 (hd _ _ (Z.of_mul hp k e1))
  have hsn : ¬ Z p s := fun h => Z.not_mul hp (Z.not_mul hp k hu) hq (Z.lin2 (-1) s hs h (by grind))
  have hu1 : ¬ Z p (u + 1) := by
    intro h
    exact h2 (hd s 2 (Z.lin3 1 (A*d - A - 2*d + u^2*(1 - d) + u*(-A*d + A + d - 1) + 2) 1 hs h hA (by grind)))
  obtain ⟨i, _, hi⟩ := Z.inv hp hsn
  obtain ⟨j, _, hj⟩ := Z.inv hp hu1
  have hx := res_z h0 (2*u*i)
  have hy := res_z h0 ((u - 1)*j)
  have lx := res_lt h0 (2*u*i)
  have ly := res_lt h0 ((u - 1)*j)
  generalize res p (2*u*i) = x at *
  generalize res p ((u - 1)*j) = y at *
  have hX : Z p ((x : Int)*s - 2*u) := Z.lin2 s (2*u) hx hi (by grind)
  have hY : Z p ((y : Int)*(u + 1) - (u - 1)) := Z.lin2 (u + 1) (u - 1) hy hj (by grind)
  refine ⟨(x, y), ⟨lx, ly, ?_⟩, hY.lin1 (-1) (by simp only; grind), fun h => not_one hp h.2⟩
  refine Z.of_mul hp (Z.not_mul hp (Z.not_mul hp hsn hsn) (Z.not_mul hp hu1 hu1)) ?_
  simp only
  generalize hX' : (x : Int)*s = X at *
  generalize hY' : (y : Int)*(u + 1) = Y at *
  have e : (s*s*((u + 1)*(u + 1)))*((x : Int)^2 + (y : Int)^2 - 1 - d*(x : Int)^2*(y : Int)^2) = X^2*(u + 1)^2 + Y^2*s^2 - s^2*(u + 1)^2 - d*X^2*Y^2 := by
    rw [← hX', ← hY']; grind
  rw [e]
  refine Z.lin4 ((X + 2*u)*((u + 1)^2 - d*Y^2)) ((Y + (u - 1))*(s^2 - d*4*u^2)) (-4*u) (-4*u^3) hX hY hs hA ?_
  grind

/-- A point of the whole order: 6. -/
theorem base : ∃ P, Pt p25 d1 P ∧ Rep p25 (1*(6 : Nat)) 1 P := by
  refine point_of p25_pr ani1 two25 (A := 486662) (s := 45068210831397923956716647471827263523992165124388675704962537850978368762132) (A1.lin1 1 (by grind)) (fun h => absurd (Z.emod_of h) (by decide +kernel)) (fun h => absurd (Z.emod_of h) (by decide +kernel)) (Z.of_emod (by decide +kernel))

/-- The second number of the third double is nought: the point is of low order. -/
def lowN (p u : Nat) : Nat :=
  let r1 := dblN p u 1
  let r2 := dblN p r1.1 r1.2
  (dblN p r2.1 r2.2).2

/-- The ladder's answer. -/
def ladOut (p u k : Nat) : Nat := (lad p u k 255).x2 * ((lad p u k 255).z2 ^ (p - 2) % p) % p

section
variable {p : Nat} (hp : Pr p) {d : Int} (hd : Ani p d) (h2 : ¬ Z p 2) {s : Int} (hs : s*s = 1) (hA : Z p (s*486662*(1 - d) - 2*(1 + d)))
include hp hd h2

omit h2 in
/-- A point whose y is 1 is the neutral one. -/
theorem pt_one {P : Nat × Nat} (hP : Pt p d P) (h : Z p ((P.2 : Int) - 1)) : P = (0, 1) := by
  have k := one_sub_d hp hd
  have hc := hP.2.2
  have hx : Z p ((P.1 : Int)*P.1) := Z.of_mul hp k (Z.lin2 1 (-(P.2 + 1) + d*P.1^2*(P.2 + 1)) hc h (by grind))
  have h0 : 0 < p := by have := hp.1; omega
  exact Prod.ext (Z.eq hP.1 h0 ((Z.sq hp hx).lin1 1 (by grind))) (Z.eq hP.2.1 hp.1 (h.lin1 1 (by grind)))

theorem rep_zero {X W : Int} {P : Nat × Nat} (hP : Pt p d P) (h : Rep p X W P) : Z p W ↔ P = (0, 1) := by
  constructor
  · intro hw
    have hx : ¬ Z p X := fun hx => h.2 ⟨hx, hw⟩
    exact pt_one hp hd hP (Z.of_mul hp hx (Z.lin2 (-1) (-(1 + P.2 : Int)) h.1 hw (by grind)))
  · rintro rfl
    have h1 := h.1
    exact Z.of_mul hp h2 (h1.lin1 (-1) (by simp only; grind))

/-- Where one of the two numbers is nought, the point twice is the neutral one. -/
theorem rep_either {X W : Int} {P : Nat × Nat} (hP : Pt p d P) (h : Rep p X W P) (hz : Z p X ∨ Z p W) : addP p d P P = (0, 1) := by
  rcases hz with hz | hz
  · have hw : ¬ Z p W := fun hw => h.2 ⟨hz, hw⟩
    have hy : Z p (1 + P.2) := Z.of_mul hp hw (Z.lin2 (-1) (1 - P.2 : Int) h.1 hz (by grind))
    have k := one_sub_d hp hd
    have hc := hP.2.2
    have hx : Z p ((P.1 : Int)*P.1) := Z.of_mul hp k (Z.lin2 1 (-(P.2 - 1) + d*P.1^2*(P.2 - 1)) hc hy (by grind))
    have hx := Z.sq hp hx
    have h0 : 0 < p := by have := hp.1; omega
    refine addP_eq hp hd h2 hP hP ⟨h0, hp.1⟩ ⟨?_, ?_⟩
    · exact hx.lin1 (-2*P.2) (by simp only; grind)
    · exact Z.lin2 (-d*P.1*P.2^2 + P.1) (-(P.2 - 1)) hx hy (by simp only; grind)
  · have := (rep_zero hp hd h2 hP h).1 hz
    subst this
    have G := pt_grp hp hd h2
    exact G.id _ G.one

include hs hA

theorem low_rep {u : Nat} {P : Nat × Nat} (hP : Pt p d P) (h : Rep p (s*u) 1 P) : Z p (lowN p u) ↔ npow (addP p d) (0, 1) P 8 = (0, 1) := by
  have G := pt_grp hp hd h2
  have r1 := dbl_rep hp hd h2 hs hA (x := u) (z := 1) hP h
  have m1 := addP_pt hp hd h2 hP hP
  have r2 := dbl_rep hp hd h2 hs hA m1 r1
  have m2 := addP_pt hp hd h2 m1 m1
  have r3 := dbl_rep hp hd h2 hs hA m2 r2
  have m3 := addP_pt hp hd h2 m2 m2
  have e1 : npow (addP p d) (0, 1) P 1 = P := by
    show addP p d P (0, 1) = P
    rw [G.comm _ _ hP G.one, G.id _ hP]
  have e2 : npow (addP p d) (0, 1) P 2 = addP p d P P := by rw [show 2 = 1 + 1 from rfl, npow_add G P hP, e1]
  have e4 : npow (addP p d) (0, 1) P 4 = addP p d (addP p d P P) (addP p d P P) := by rw [show 4 = 2 + 2 from rfl, npow_add G P hP, e2]
  rw [show 8 = 4 + 4 from rfl, npow_add G P hP, e4]
  exact rep_zero hp hd h2 m3 r3

/-- The ladder's answer is nought at a point of low order alone. -/
theorem out_rep {u k m N : Nat} {P : Nat × Nat} (hu : ¬ Z p (u : Int)) (hP : Pt p d P) (h : Rep p (s*u) 1 P) (hk : k = 8 * m) (hk2 : k < 2^255) (hlast : (lad p u k 255).last = false)
    (hN : npow (addP p d) (0, 1) P N = (0, 1)) (hg : Nat.gcd (2 * k) N ∣ 8) : ladOut p u k = 0 ↔ Z p (lowN p u) := by
  have G := pt_grp hp hd h2
  have hl := lad_rep hp hd h2 hs hA hu hP h hk2 255 (Nat.le_refl _)
  rw [hlast] at hl
  simp only [Bool.false_eq_true, if_false, Nat.sub_self, Nat.pow_zero, Nat.div_one] at hl
  have hl := hl.1
  have hm := npow_mem G P hP k
  have h0 : 0 < p := by have := hp.1; omega
  have h3 : 3 ≤ p := by
    refine Classical.byContradiction fun hc => h2 ?_
    have := hp.1
    have e : p = 2 := by omega
    rw [e]; exact Int.dvd_refl _
  rw [low_rep hp hd h2 hs hA hP h]
  unfold ladOut
  constructor
  · intro hz
    have hz2 : Z p ((lad p u k 255).x2 : Int) ∨ Z p ((lad p u k 255).z2 : Int) := by
      rcases hp.euclid (Nat.dvd_of_mod_eq_zero hz) with h5 | h5
      · exact Or.inl (Z.nat.2 h5)
      · refine Or.inr (Z.nat.2 (hp.dvd_pow (p - 2) ((Nat.dvd_mod_iff (Nat.dvd_refl p)).1 h5)))
    have hz3 : Z p (s*(lad p u k 255).x2) ∨ Z p ((lad p u k 255).z2 : Int) := hz2.imp (fun q => q.lin1 s (by grind)) id
    have h6 := rep_either hp hd h2 hm hl hz3
    rw [← npow_add G P hP] at h6
    have h7 := npow_gcd G P hP _ _ h6 hN
    obtain ⟨c, hc⟩ := hg
    rw [show k + k = 2 * k from by omega] at h7
    rw [hc, npow_mul G P hP, h7, npow_one G]
  · intro h8
    have h9 : npow (addP p d) (0, 1) P k = (0, 1) := by rw [hk, npow_mul G P hP, h8, npow_one G]
    have h10 := Z.nat.1 ((rep_zero hp hd h2 hm hl).2 h9)
    refine Nat.mod_eq_zero_of_dvd (Nat.dvd_mul_left_of_dvd ?_ _)
    refine (Nat.dvd_mod_iff (Nat.dvd_refl p)).2 (Nat.dvd_trans h10 ?_)
    obtain ⟨q, hq⟩ : ∃ q, p - 2 = q + 1 := ⟨p - 3, by omega⟩
    rw [hq, Nat.pow_succ]
    exact Nat.dvd_mul_left _ _
end

/-- Each point of the curve, as often as its order says, is the neutral one. -/
theorem order1 : (points p25 d1).length = 8 * ell := by
  have hp := p25_pr
  have G := pt_grp hp ani1 two25
  have hb := both hp two25 k25_eq rm1_z d1_non d12
  obtain ⟨B, hB, hr⟩ := base
  have hN := npow_card G (points p25 d1) (points_nodup _ _) (fun x => mem_points) B hB
  have h9 : ¬ Z p25 ((6 : Nat) : Int) := fun h => absurd (Z.emod_of h) (by decide +kernel)
  have rep : ∀ k, k < 2^255 → (lad p25 6 k 255).last = false → Rep p25 (1*(lad p25 6 k 255).x2) (lad p25 6 k 255).z2 (npow (addP p25 d1) (0, 1) B k) := by
    intro k hk hl
    have h := lad_rep hp ani1 two25 (s := 1) (by decide) A1 h9 hB hr hk 255 (Nat.le_refl _)
    rw [hl] at h
    simp only [Bool.false_eq_true, if_false, Nat.sub_self, Nat.pow_zero, Nat.div_one] at h
    exact h.1
  have key : ∀ k, k < 2^255 → (lad p25 6 k 255).last = false → (lad p25 6 k 255).z2 % p25 ≠ 0 → npow (addP p25 d1) (0, 1) B k ≠ (0, 1) := by
    intro k hk hl hz he
    exact hz (Nat.mod_eq_zero_of_dvd (Z.nat.1 ((rep_zero hp ani1 two25 (npow_mem G B hB k) (rep k hk hl)).2 he)))
  have k1 : npow (addP p25 d1) (0, 1) B (4 * ell) ≠ (0, 1) := key _ (by decide +kernel) (by decide +kernel) (by decide +kernel)
  have k2 : npow (addP p25 d1) (0, 1) B 8 ≠ (0, 1) := key _ (by decide +kernel) (by decide +kernel) (by decide +kernel)
  have k3 : npow (addP p25 d1) (0, 1) B (8 * ell) = (0, 1) := by
    have h := rep_either hp ani1 two25 (npow_mem G B hB (4 * ell)) (rep (4 * ell) (by decide +kernel) (by decide +kernel)) (Or.inl (Z.of_emod (by decide +kernel)))
    rw [← npow_add G B hB] at h
    rw [show 8 * ell = 4 * ell + 4 * ell from by omega]; exact h
  have hpos : 0 < (points p25 d1).length := List.length_pos_of_mem (mem_points.2 G.one)
  generalize (points p25 d1).length = N at *
  have hdvd : 8 * ell ∣ N := by
    have hg := npow_gcd G B hB _ _ hN k3
    have hgN : Nat.gcd N (8 * ell) ∣ N := Nat.gcd_dvd_left _ _
    obtain ⟨h, hh⟩ : Nat.gcd N (8 * ell) ∣ 8 * ell := Nat.gcd_dvd_right _ _
    have no : ∀ c, npow (addP p25 d1) (0, 1) B c ≠ (0, 1) → ¬ Nat.gcd N (8 * ell) ∣ c := by
      rintro c hc ⟨q, rfl⟩
      exact hc (by rw [npow_mul G B hB, hg, npow_one G])
    generalize Nat.gcd N (8 * ell) = g at *
    by_cases h1 : h = 1
    · rw [hh, h1, Nat.mul_one]; exact hgN
    · exfalso
      have h0 : h ≠ 0 := by
        rintro rfl
        have : 8 * ell ≠ 0 := by decide +kernel
        omega
      obtain ⟨r, hr, h', rfl⟩ := exists_prime h (by omega)
      have hr0 : 0 < r := by have := hr.1; omega
      have hrd : r ∣ 8 * ell := ⟨g * h', by rw [hh, Nat.mul_left_comm]⟩
      rcases hr.euclid hrd with h8 | hl
      · have h2' : r ∣ 2 := hr.dvd_pow 3 h8
        have hr2 : r = 2 := by
          have := Nat.le_of_dvd (by decide) h2'
          have := hr.1; omega
        subst hr2
        refine no _ k1 ⟨h', ?_⟩
        have e := hh
        rw [Nat.mul_left_comm] at e
        omega
      · rcases ell_pr.2 r hl with e | e
        · have := hr.1; omega
        · subst e
          refine no _ k2 ⟨h', ?_⟩
          have e := hh
          rw [Nat.mul_left_comm, Nat.mul_comm 8] at e
          exact Nat.eq_of_mul_eq_mul_left hr0 e
  obtain ⟨q, rfl⟩ := hdvd
  have hle : 8 * ell * q ≤ 2 * p25 + 2 := by omega
  have hq : q = 1 := by
    have hbig : 2 * p25 + 2 < 8 * ell * 2 := by decide +kernel
    rcases q with _ | _ | q
    · simp at hpos
    · rfl
    · have : 8 * ell * 2 ≤ 8 * ell * (q + 1 + 1) := Nat.mul_le_mul_left _ (by omega)
      omega
  rw [hq, Nat.mul_one]

theorem order2 : (points p25 d2).length = 4 * ell' := by
  have hb := both p25_pr two25 k25_eq rm1_z d1_non d12
  rw [order1] at hb
  have : 8 * ell + 4 * ell' = 2 * p25 + 2 := by decide +kernel
  omega

theorem gcd1 {m : Nat} (h0 : 0 < m) (hm : m < 2^252) : Nat.gcd (2 * (8 * m)) (8 * ell) ∣ 8 := by
  have e : 2 * (8 * m) = 8 * (2 * m) := by omega
  rw [e, Nat.gcd_mul_left]
  have hc : Nat.gcd ell (2 * m) = 1 := by
    refine ell_pr.coprime fun hd => ?_
    rcases ell_pr.euclid hd with h | h
    · have h1 := Nat.le_of_dvd (by decide) h
      have : 2 < ell := by decide +kernel
      omega
    · have h1 := Nat.le_of_dvd h0 h
      have : 2^252 ≤ ell := by decide +kernel
      omega
  rw [Nat.gcd_comm, hc]; exact Nat.dvd_refl _

theorem gcd2 {m : Nat} (h0 : 0 < m) (hm : m < 2^252) : Nat.gcd (2 * (8 * m)) (4 * ell') ∣ 8 := by
  have e : 2 * (8 * m) = 4 * (4 * m) := by omega
  rw [e, Nat.gcd_mul_left]
  have hc : Nat.gcd ell' (4 * m) = 1 := by
    refine ell_pr'.coprime fun hd => ?_
    rcases ell_pr'.euclid hd with h | h
    · have h1 := Nat.le_of_dvd (by decide) h
      have : 4 < ell' := by decide +kernel
      omega
    · have h1 := Nat.le_of_dvd h0 h
      have : 2^252 ≤ ell' := by decide +kernel
      omega
  rw [Nat.gcd_comm, hc]; exact ⟨2, rfl⟩

theorem lad_last (p u k : Nat) (j : Nat) : (lad p u k (j + 1)).last = k.testBit (254 - j) := by
  show ((lad p u k j).step p u (k.testBit (254 - j))).last = _
  unfold Lad.step
  split <;> rfl

theorem dbl_nought {p x z : Nat} (hp : 0 < p) (h : Z p (z : Int)) : Z p ((dblN p x z).2 : Int) := by
  have := (dblN_z hp x z).2
  exact Z.lin2 1 (4*x*((x : Int)^2 + 486662*x*z + z^2)) this h (by grind)

theorem dbl_nought' {p x z : Nat} (hp : 0 < p) (h : Z p (x : Int)) : Z p ((dblN p x z).2 : Int) := by
  have := (dblN_z hp x z).2
  exact Z.lin2 1 (4*z*((x : Int)^2 + 486662*x*z + z^2)) this h (by grind)

theorem add_nought {p u x2 z2 x3 z3 : Nat} (hp : 0 < p) (h : Z p (u : Int)) : Z p ((addN p u x2 z2 x3 z3).2 : Int) := by
  have := (addN_z hp u x2 z2 x3 z3).2
  exact Z.lin2 1 (4*((x3 : Int)*z2 - x2*z3)^2) this h (by grind)

theorem lad_nought {p u k : Nat} (hp : 0 < p) (h : Z p (u : Int)) : ∀ j, Z p ((lad p u k (j + 1)).z2 : Int) ∧ Z p ((lad p u k (j + 1)).z3 : Int)
  | 0 => by
    show Z p (((lad p u k 0).step p u (k.testBit (254 - 0))).z2 : Int) ∧ Z p (((lad p u k 0).step p u (k.testBit (254 - 0))).z3 : Int)
    cases k.testBit (254 - 0) <;> simp only [Lad.step, lad, Bool.xor_false, Bool.false_eq_true, if_false, if_true]
    · exact ⟨dbl_nought hp (Z.zero p), add_nought hp h⟩
    · exact ⟨dbl_nought' hp h, add_nought hp h⟩
  | j + 1 => by
    obtain ⟨ih1, ih2⟩ := lad_nought (k := k) hp h j
    show Z p (((lad p u k (j + 1)).step p u (k.testBit (254 - (j + 1)))).z2 : Int) ∧ Z p (((lad p u k (j + 1)).step p u (k.testBit (254 - (j + 1)))).z3 : Int)
    unfold Lad.step
    split
    · exact ⟨dbl_nought hp ih2, add_nought hp h⟩
    · exact ⟨dbl_nought hp ih1, add_nought hp h⟩

/-- THE THEOREM: for a secret key as X25519 takes it the ladder's answer is nought just at a point of low order. -/
theorem shared_zero (u m : Nat) (h0 : 0 < m) (hm : m < 2^252) : ladOut p25 u (8 * m) = 0 ↔ lowN p25 u % p25 = 0 := by
  have hp := p25_pr
  have hpos : 0 < p25 := by have := hp.1; omega
  have hlast : (lad p25 u (8 * m) 255).last = false := by
    rw [lad_last p25 u (8 * m) 254, Nat.testBit_eq_decide_div_mod_eq]
    simp; omega
  have hk : 8 * m < 2^255 := by omega
  have hZ : Z p25 (lowN p25 u) ↔ lowN p25 u % p25 = 0 := by rw [Z.nat]; exact Nat.dvd_iff_mod_eq_zero
  rw [← hZ]
  by_cases hu : Z p25 (u : Int)
  · have h1 : Z p25 (lowN p25 u) := dbl_nought hpos (dbl_nought hpos (dbl_nought' hpos hu))
    refine ⟨fun _ => h1, fun _ => ?_⟩
    have h2 := Z.nat.1 (lad_nought (k := 8 * m) hpos hu 254).1
    unfold ladOut
    refine Nat.mod_eq_zero_of_dvd (Nat.dvd_mul_left_of_dvd ?_ _)
    refine (Nat.dvd_mod_iff (Nat.dvd_refl p25)).2 (Nat.dvd_trans h2 ?_)
    obtain ⟨q, hq⟩ : ∃ q, p25 - 2 = q + 1 := ⟨p25 - 3, by have : 3 ≤ p25 := by decide +kernel
                                                          omega⟩
    rw [hq, Nat.pow_succ]
    exact Nat.dvd_mul_left _ _
  · have n1 := one_sub_d hp ani1
    have hA2 : ¬ Z p25 (1*486662 + 2) := fun h => absurd (Z.emod_of h) (by decide +kernel)
    have hA2' : ¬ Z p25 (-1*486662 + 2) := fun h => absurd (Z.emod_of h) (by decide +kernel)
    have hq : ¬ Z p25 ((1 - d1)*u*((u : Int)^2 + 486662*u + 1)) := by
      refine Z.not_mul hp (Z.not_mul hp n1 hu) fun h => ?_
      have e1 : Z p25 ((1 - d1)*((2*u + 486662)*(2*u + 486662) - d1*((486662 + 2)*(486662 + 2)))) := Z.lin2 (4*(1 - d1)) ((486662 + 2)*(1 - d1)) h A1 (by grind)
      exact hA2 ((ani1 _ _ (Z.of_mul hp n1 e1)).lin1 1 (by grind))
    rcases qr_or hp k25_eq rm1_z d1_non hq with ⟨s, hs⟩ | ⟨s, hs⟩
    · obtain ⟨P, hP, hr⟩ := point_of hp ani1 two25 (A := 1*486662) (u := 1*(u : Int)) (s := s) A1 hA2 (fun h => hu (h.lin1 1 (by grind))) (hs.lin1 1 (by grind))
      have G := pt_grp hp ani1 two25
      have hN := npow_card G (points p25 d1) (points_nodup _ _) (fun x => mem_points) P hP
      rw [order1] at hN
      exact out_rep hp ani1 two25 (s := 1) (by decide) A1 hu hP hr rfl hk hlast hN (gcd1 h0 hm)
    · have hu' : ¬ Z p25 (-1*(u : Int)) := fun h => hu (h.lin1 (-1) (by grind))
      have e : Z p25 ((s*d2)*(s*d2) - (1 - d2)*(-1*(u : Int))*((-1*(u : Int))^2 + (-1*486662)*(-1*(u : Int)) + 1)) := by
        refine Z.lin2 (d2*d2) ((d2 - d1*d2 - 1)*u*((u : Int)^2 + 486662*u + 1)) hs d12 ?_
        grind
      obtain ⟨P, hP, hr⟩ := point_of hp ani2 two25 (A := -1*486662) (u := -1*(u : Int)) (s := s*d2) A2 hA2' hu' e
      have G := pt_grp hp ani2 two25
      have hN := npow_card G (points p25 d2) (points_nodup _ _) (fun x => mem_points) P hP
      rw [order2] at hN
      exact out_rep hp ani2 two25 (s := -1) (by decide) A2 hu hP hr rfl hk hlast hN (gcd2 h0 hm)
#print axioms shared_zero
end Num

namespace Num
/-- The two points of order 8, by their first number. -/
def lowA : Nat := 325606250916557431795983626356110631294008115727848805560023387167927233504
def lowB : Nat := 39382357235489614581723060781553021112529911719440698176882885853963445705823
def lowV : Int := 18188081132251925698266448096434822182811072497651735037285882762825191880626
def lowT : Int := 14856279910349605081280299881395334804609297657786658129414739047344204649203
def lowD : Int := 236839902240
def lowM : Int := 57896044618658097711785492504343953926634992332820282019728792003956564333289
theorem lowT_non : Z p25 (lowT^(4*k25 + 2) + 1) := Z.pow_nat (p := p25) (f := 256) (a := 14856279910349605081280299881395334804609297657786658129414739047344204649203) (e := 4*k25 + 2) (by decide +kernel) (by decide +kernel)
theorem lowD_non : Z p25 (lowD^(4*k25 + 2) + 1) := Z.pow_nat (p := p25) (f := 256) (a := 236839902240) (e := 4*k25 + 2) (by decide +kernel) (by decide +kernel)
theorem lowM_non : Z p25 (lowM^(4*k25 + 2) + 1) := Z.pow_nat (p := p25) (f := 256) (a := 57896044618658097711785492504343953926634992332820282019728792003956564333289) (e := 4*k25 + 2) (by decide +kernel) (by decide +kernel)
theorem aniT : Ani p25 lowT := ani_of p25_pr k25_eq two25 lowT_non
theorem aniD : Ani p25 lowD := ani_of p25_pr k25_eq two25 lowD_non
theorem aniM : Ani p25 lowM := ani_of p25_pr k25_eq two25 lowM_non
theorem low_sum : Z p25 ((lowA : Int) + lowB + lowV - 4) := Z.of_emod (by decide +kernel)
theorem low_prod : Z p25 ((lowA : Int) * lowB - 1) := Z.of_emod (by decide +kernel)
theorem low_mid : Z p25 ((lowA : Int) * lowV + lowB * lowV + 2 + 4*486662 + 2) := Z.of_emod (by decide +kernel)
theorem lowT_eq : Z p25 (lowV * lowV - 4 - lowT) := Z.of_emod (by decide +kernel)
theorem lowM_eq : Z p25 (2 - 486662 - lowM) := Z.of_emod (by decide +kernel)

theorem four25 : ¬ Z p25 4 := fun h => absurd (Z.emod_of h) (by decide +kernel)
/-- A double's second number is nought. -/
theorem dbl_zero {x z : Nat} : Z p25 ((dblN p25 x z).2 : Int) ↔ Z p25 (x : Int) ∨ Z p25 (z : Int) := by
  have hp := p25_pr
  have h0 : 0 < p25 := by have := hp.1; omega
  have e := (dblN_z h0 x z).2
  constructor
  · intro h
    have h1 : Z p25 (4*((x : Int)*z*((x : Int)^2 + 486662*x*z + z^2))) := Z.lin2 (-1) 1 e h (by grind)
    rcases Z.euclid hp (Z.of_mul hp four25 h1) with h3 | h3
    · exact Z.euclid hp h3
    · -- the square has no root but nought
      have h4 : Z p25 ((2*x + 486662*z : Int)*(2*x + 486662*z) - lowD*((z : Int)*z)) := h3.lin1 4 (by unfold lowD; grind)
      exact Or.inr (aniD _ _ h4)
  · rintro (h | h)
    · exact dbl_nought' h0 h
    · exact dbl_nought h0 h
theorem dbl_first {x z : Nat} : Z p25 ((dblN p25 x z).1 : Int) ↔ Z p25 ((x : Int) - z) ∨ Z p25 ((x : Int) + z) := by
  have hp := p25_pr
  have h0 : 0 < p25 := by have := hp.1; omega
  have e := (dblN_z h0 x z).1
  constructor
  · intro h
    have h1 : Z p25 ((((x : Int) - z)*(x + z))*(((x : Int) - z)*(x + z))) := Z.lin2 (-1) 1 e h (by grind)
    exact Z.euclid hp (Z.sq hp h1)
  · rintro (h | h)
    · exact Z.lin2 1 (((x : Int) - z)*(x + z)^2) e h (by grind)
    · exact Z.lin2 1 (((x : Int) - z)^2*(x + z)) e h (by grind)
/-- The quartic of the points of order 8. -/
theorem quart {u : Int} (h : Z p25 (u^4 - 4*u^3 - (2 + 4*486662)*u^2 - 4*u + 1)) : Z p25 (u - lowA) ∨ Z p25 (u - lowB) := by
  have hp := p25_pr
  have h1 : Z p25 (((u - lowA)*(u - lowB))*(u*u - lowV*u + 1)) :=
    Z.lin4 1 (-(u^3 + u)) (u*u - lowV*u + 1) (u^2) h low_sum low_prod low_mid (by grind)
  rcases Z.euclid hp h1 with h3 | h3
  · exact Z.euclid hp h3
  · have h4 : Z p25 ((2*u - lowV)*(2*u - lowV) - lowT*(1*1)) := Z.lin2 4 1 h3 lowT_eq (by grind)
    exact absurd (aniT _ _ h4) (not_one hp)
theorem quart' {u : Int} (h : Z p25 (u^4 + 4*u^3 + (4*486662 - 2)*u^2 + 4*u + 1)) : False := by
  have hp := p25_pr
  -- (u^2 + 2 u + 1)^2 = 4 (2 - A) u^2
  have h1 : Z p25 ((u*u + 2*u + 1)*(u*u + 2*u + 1) - lowM*((2*u)*(2*u))) := Z.lin2 1 (4*u*u) h lowM_eq (by grind)
  have h3 : Z p25 u := Z.of_mul hp two25 (aniM _ _ h1)
  exact not_one hp (Z.lin2 1 (-(u^3 + 4*u^2 + (4*486662 - 2)*u + 4)) h h3 (by grind))
theorem quart_of {u : Int} (h : Z p25 (u - lowA) ∨ Z p25 (u - lowB)) : Z p25 (u^4 - 4*u^3 - (2 + 4*486662)*u^2 - 4*u + 1) := by
  have h1 : Z p25 (((u - lowA)*(u - lowB))*(u*u - lowV*u + 1)) := by
    rcases h with h | h
    · exact h.lin1 ((u - lowB)*(u*u - lowV*u + 1)) (by grind)
    · exact h.lin1 ((u - lowA)*(u*u - lowV*u + 1)) (by grind)
  exact Z.lin4 1 (u^3 + u) (-(u*u - lowV*u + 1)) (-(u^2)) h1 low_sum low_prod low_mid (by grind)
/-- THE LAW: the third double is nought just at five points. -/
theorem low_iff (u : Nat) : Z p25 (lowN p25 u : Int) ↔ (Z p25 (u : Int) ∨ Z p25 ((u : Int) - 1) ∨ Z p25 ((u : Int) - lowA) ∨ Z p25 ((u : Int) - lowB) ∨ Z p25 ((u : Int) + 1)) := by
  have hp := p25_pr
  have h0 : 0 < p25 := by have := hp.1; omega
  obtain ⟨e1, e2⟩ := dblN_z h0 u 1
  unfold lowN
  rw [dbl_zero, dbl_first, dbl_zero, dbl_first, dbl_zero]
  generalize (dblN p25 u 1).1 = x at *
  generalize (dblN p25 u 1).2 = z at *
  push_cast at *
  have n1 := not_one hp
  constructor
  · rintro ((h | h) | ((h | h) | (h | h)))
    · rcases quart (u := u) (Z.lin3 (-1) 1 1 e1 e2 h (by grind)) with h | h
      · exact .inr (.inr (.inl h))
      · exact .inr (.inr (.inr (.inl h)))
    · exact (quart' (u := u) (Z.lin3 (-1) (-1) 1 e1 e2 h (by grind))).elim
    · exact .inr (.inl h)
    · exact .inr (.inr (.inr (.inr h)))
    · exact .inl h
    · exact (n1 h).elim
  · rintro (h | h | h | h | h)
    · exact .inr (.inr (.inl h))
    · exact .inr (.inl (.inl h))
    · exact .inl (.inl (Z.lin3 1 (-1) 1 e1 e2 (quart_of (.inl h)) (by grind)))
    · exact .inl (.inl (Z.lin3 1 (-1) 1 e1 e2 (quart_of (.inr h)) (by grind)))
    · exact .inr (.inl (.inr h))
theorem z_of_nat {p u a : Nat} : Z p ((u : Int) - a) ↔ u % p = a % p := by
  constructor
  · intro h
    have h1 : ((u : Int) % p) = (a : Int) % p := Int.emod_eq_emod_iff_emod_sub_eq_zero.2 (Int.emod_eq_zero_of_dvd h)
    exact_mod_cast h1
  · intro h
    have h1 := Z.mod p u
    have h3 := Z.mod p a
    rw [h] at h1
    exact Z.lin2 (-1) 1 h1 h3 (by grind)
/-- The same over numbers. -/
theorem low_nat (u : Nat) : lowN p25 u % p25 = 0 ↔ (u % p25 = 0 ∨ u % p25 = 1 ∨ u % p25 = lowA ∨ u % p25 = lowB ∨ u % p25 = p25 - 1) := by
  have hZ : Z p25 (lowN p25 u) ↔ lowN p25 u % p25 = 0 := by rw [Z.nat]; exact Nat.dvd_iff_mod_eq_zero
  have hU : Z p25 (u : Int) ↔ u % p25 = 0 := by rw [Z.nat]; exact Nat.dvd_iff_mod_eq_zero
  have h1 : Z p25 ((u : Int) - 1) ↔ u % p25 = 1 := by
    have := z_of_nat (p := p25) (u := u) (a := 1)
    rwa [show 1 % p25 = 1 by decide +kernel] at this
  have hA : Z p25 ((u : Int) - lowA) ↔ u % p25 = lowA := by
    have := z_of_nat (p := p25) (u := u) (a := lowA)
    rwa [show lowA % p25 = lowA by decide +kernel] at this
  have hB : Z p25 ((u : Int) - lowB) ↔ u % p25 = lowB := by
    have := z_of_nat (p := p25) (u := u) (a := lowB)
    rwa [show lowB % p25 = lowB by decide +kernel] at this
  have hm : Z p25 ((u : Int) + 1) ↔ u % p25 = p25 - 1 := by
    have := z_of_nat (p := p25) (u := u) (a := p25 - 1)
    rw [show (p25 - 1) % p25 = p25 - 1 by decide +kernel] at this
    rw [← this]
    have hpp : Z p25 (p25 : Int) := Int.dvd_refl _
    have e : ((p25 - 1 : Nat) : Int) = p25 - 1 := by
      have : 1 ≤ p25 := by decide +kernel
      omega
    rw [e]
    exact ⟨fun h => Z.lin2 1 (-1) h hpp (by grind), fun h => Z.lin2 1 1 h hpp (by grind)⟩
  rw [← hZ, low_iff, hU, h1, hA, hB, hm]
end Num

namespace Num
/-- The exponent of Euler's criterion. -/
theorem two_mul_z {p : Nat} (hp : Pr p) (h2 : ¬ Z p 2) {a : Int} (h : Z p (a + a)) : Z p a := Z.of_mul hp h2 (h.lin1 1 (by grind))
theorem znat {p a b : Nat} : a % p = b % p ↔ Z p ((a : Int) - b) := by
  constructor
  · intro h
    have h1 := Z.mod p a
    have h3 := Z.mod p b
    rw [h] at h1
    exact Z.lin2 (-1) 1 h1 h3 (by grind)
  · intro h
    have h1 : ((a : Int) % p) = (b : Int) % p := Int.emod_eq_emod_iff_emod_sub_eq_zero.2 (Int.emod_eq_zero_of_dvd h)
    exact_mod_cast h1
theorem znat0 {p a : Nat} : a % p = 0 ↔ Z p (a : Int) := by
  rw [Z.nat]; exact (Nat.dvd_iff_mod_eq_zero).symm
section
variable {p : Nat} (hp : Pr p) {k : Nat} (hk : p = 8 * k + 5) (h2 : ¬ Z p 2)
include hp hk h2
/-- The candidate for the root of x / y. -/
theorem isqZ {x y z : Int} (hx : ¬ Z p x) (hy : ¬ Z p y) (hz : Z p (z - (x*y^7)^k * (x*y^3))) :
    (Z p ((x*y)^(4*k + 2) - 1) ∧ (Z p (z*z*y - x) ∨ Z p (z*z*y + x))) ∨ (Z p ((x*y)^(4*k + 2) + 1) ∧ ¬ Z p (z*z*y - x) ∧ ¬ Z p (z*z*y + x)) := by
  have hone := not_one hp
  -- y to the group's order
  have fy := fermatZ hp hy
  have e1 : y^(p - 1) = (y^(2*k + 1))^4 := by rw [← Int.pow_mul]; congr 1; omega
  rw [e1] at fy
  have e2 : (x*y^7)^(2*k + 1) = (x*y)^(2*k + 1) * (y^(2*k + 1))^6 := by
    rw [show x*y^7 = (x*y)*y^6 by grind, Int.mul_pow, ← Int.pow_mul, ← Int.pow_mul, Nat.mul_comm 6]
  have e3 : (x*y^7)^k * (x*y^7)^k * (x*y^7) = (x*y^7)^(2*k + 1) := by rw [← Int.pow_add, ← Int.pow_succ]; congr 1; omega
  have e4 : (x*y)^(4*k + 2) = (x*y)^(2*k + 1) * (x*y)^(2*k + 1) := by rw [← Int.pow_add]; congr 1; omega
  rw [e4]
  have hw : Z p ((x*y)^(2*k + 1) * (x*y)^(2*k + 1) - 1) ∨ Z p ((x*y)^(2*k + 1) * (x*y)^(2*k + 1) + 1) := by
    have := half_pow hp hk (Z.not_mul hp hx hy)
    rw [e4] at this; exact this
  rw [e2] at e3
  generalize (x*y^7)^k = s at *
  generalize (x*y)^(2*k + 1) = c at *
  generalize y^(2*k + 1) = f at *
  -- z z y = x c f^6
  have hq : Z p (z*z*y - x*(c*f^6)) := by
    rw [← e3]
    exact hz.lin1 ((z + s*(x*y^3))*y) (by grind)
  have hf : Z p ((c*f^6)*(c*f^6) - c*c) := fy.lin1 (c*c*(f^8 + f^4 + 1)) (by grind)
  generalize c*f^6 = g at *
  rcases hw with hw | hw
  · refine Or.inl ⟨hw, ?_⟩
    rcases Z.euclid hp (a := g - 1) (b := g + 1) (Z.lin2 1 1 hf hw (by grind)) with h | h
    · exact Or.inl (Z.lin2 1 x hq h (by grind))
    · exact Or.inr (Z.lin2 1 x hq h (by grind))
  · have hg : Z p (g*g + 1) := Z.lin2 1 1 hf hw (by grind)
    refine Or.inr ⟨hw, fun h => ?_, fun h => ?_⟩
    · have : Z p (g - 1) := Z.of_mul hp hx (Z.lin2 (-1) 1 hq h (by grind))
      exact h2 (Z.lin2 1 (-(g + 1)) hg this (by grind))
    · have : Z p (g + 1) := Z.of_mul hp hx (Z.lin2 (-1) 1 hq h (by grind))
      exact h2 (Z.lin2 1 (-(g - 1)) hg this (by grind))
end
/-- THE LAW: the candidate's square times y is x, or its opposite, just where x y is a square. -/
theorem isq {x y z : Nat} (hx : ¬ x % p25 = 0) (hy : ¬ y % p25 = 0) (hz : z % p25 = (x*y^7)^k25 * (x*y^3) % p25) :
    ((x*y)^(4*k25 + 2) % p25 = 1 ∧ (z*z*y % p25 = x % p25 ∨ (z*z*y + x) % p25 = 0)) ∨ (¬ (x*y)^(4*k25 + 2) % p25 = 1 ∧ ¬ (x*y)^(4*k25 + 2) % p25 = 0 ∧ ¬ z*z*y % p25 = x % p25 ∧ ¬ (z*z*y + x) % p25 = 0) := by
  have hp := p25_pr
  rw [znat0] at hx hy
  rw [znat] at hz
  push_cast at hz
  have h1 : (1 : Nat) = 1 % p25 := by decide +kernel
  have n2 := two25
  rcases isqZ hp k25_eq two25 hx hy hz with ⟨ha, hb⟩ | ⟨ha, hb, hc⟩
  · refine Or.inl ⟨?_, ?_⟩
    · rw [h1, znat]; push_cast; exact ha
    · rw [znat, znat0]; push_cast; exact hb
  · refine Or.inr ⟨fun h => ?_, fun h => ?_, ?_, ?_⟩
    · rw [h1, znat] at h; push_cast at h
      exact n2 (Z.lin2 1 (-1) ha h (by grind))
    · rw [znat0] at h; push_cast at h
      exact not_one hp (Z.lin2 1 (-1) ha h (by grind))
    · rw [znat]; push_cast; exact hb
    · rw [znat0]; push_cast; exact hc
theorem isq_root {x y z i : Nat} (hi : (i*i + 1) % p25 = 0) (h : (z*z*y + x) % p25 = 0) : (z*i)*(z*i)*y % p25 = x % p25 := by
  rw [znat0] at hi h
  rw [znat]
  push_cast at *
  exact Z.lin2 ((z : Int)*z*y) (-1) hi h (by grind)
end Num
