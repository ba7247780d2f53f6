/-
  The ladder's step by plain numbers; parts of rows overwritten; AddSub on the walk's lists (written by gensb.py).
-/
import Derived.Test.YteehdjkmjncehaaDoorHE2
import Derived.Test.YteehdjkmjncehaaDoorHQ
import Derived.Test.YteehdjkmjncehaaDoorMB
namespace Go.Proofs.YteehdjkmjncehaaDoor
open Go.RowKit
theorem subN_fs (x y : Nat) : subN x y = Num.fsub p25 x y := by unfold subN Num.fsub; rw [Nat.add_mod_mod]
/-- The double of one of two points. -/
def dN (m a b c d : Nat) : Nat × Nat := if m = 1 then Num.dblN p25 c d else Num.dblN p25 a b
/-- The sum of two points, in one of both orders. -/
def aN (m u a b c d : Nat) : Nat × Nat := if m = 1 then Num.addN p25 u c d a b else Num.addN p25 u a b c d
theorem dblN_lt (x z : Nat) : (Num.dblN p25 x z).1 < 2 ^ 256 ∧ (Num.dblN p25 x z).2 < 2 ^ 256 := ⟨lt256 _, lt256 _⟩
theorem addN_lt (u a b c d : Nat) : (Num.addN p25 u a b c d).1 < 2 ^ 256 ∧ (Num.addN p25 u a b c d).2 < 2 ^ 256 := ⟨lt256 _, lt256 _⟩
theorem dN_lt1 (m a b c d : Nat) : (dN m a b c d).1 < 2 ^ 256 := by unfold dN; split; exact (dblN_lt _ _).1; exact (dblN_lt _ _).1
theorem dN_lt2 (m a b c d : Nat) : (dN m a b c d).2 < 2 ^ 256 := by unfold dN; split; exact (dblN_lt _ _).2; exact (dblN_lt _ _).2
theorem aN_lt1 (m u a b c d : Nat) : (aN m u a b c d).1 < 2 ^ 256 := by unfold aN; split; exact (addN_lt _ _ _ _ _).1; exact (addN_lt _ _ _ _ _).1
theorem aN_lt2 (m u a b c d : Nat) : (aN m u a b c d).2 < 2 ^ 256 := by unfold aN; split; exact (addN_lt _ _ _ _ _).2; exact (addN_lt _ _ _ _ _).2
theorem elA_put (vs : List Nat) (q r : Nat) (hq : q < vs.length) : ∀ k, k < (elA vs).size → (elA (vs.set q r))[k]? = if 32 * q ≤ k ∧ k < 32 * q + (byA 32 r).size then (byA 32 r)[k - 32 * q]? else (elA vs)[k]? := fun k hk => by
  rw [elA_size] at hk
  rw [byA_size]
  obtain ⟨i, j, hj, rfl⟩ : ∃ i j, j < 32 ∧ k = 32 * i + j := ⟨k / 32, k % 32, by omega, by omega⟩
  have hi : i < vs.length := by omega
  by_cases e : i = q
  · subst e
    rw [if_pos (by omega), elA_at (v := r) (by simp [hi]) hj, show 32 * i + j - 32 * i = j by omega, byA_get hj]
  · rw [if_neg (by omega), elA_at (v := vs[i]) (by rw [List.getElem?_set_ne (Ne.symm e)]; simp [hi]) hj, elA_at (v := vs[i]) (by simp [hi]) hj]
theorem elA_set_size (vs : List Nat) (q r : Nat) : (elA (vs.set q r)).size = (elA vs).size := by rw [elA_size, elA_size, List.length_set]

theorem leE {vs : List Nat} (q r : Nat) (h : q < vs.length) : 32 * q + (byA 32 r).size ≤ (elA vs).size := by rw [byA_size, elA_size]; omega
theorem elA_ext {vs : List Nat} {v : Nat} (q : Nat) (h : vs[q]? = some v) : (elA vs).extract (q * 32) (q * 32 + 32) = byA 32 v := by
  have hq : q < vs.length := (List.getElem?_eq_some_iff.1 h).1
  apply Array.ext_getElem?
  intro j
  by_cases hj : j < 32
  · rw [byA_get hj, ← elA_at h hj, Array.getElem?_extract, elA_size, if_pos (by omega)]; congr 1; omega
  · rw [Array.getElem?_eq_none (by rw [Array.size_extract, elA_size]; omega), Array.getElem?_eq_none (by rw [byA_size]; omega)]

theorem w5_put0 (a b c d e v : Nat) : ∀ k, k < (dgA 80 (w5F a b c d e)).size → (dgA 80 (w5F v b c d e))[k]? = if 0 ≤ k ∧ k < 0 + (dgA 16 (dig v)).size then (dgA 16 (dig v))[k - 0]? else (dgA 80 (w5F a b c d e))[k]? := fun k hk => by
  rw [dgA_size] at hk
  rw [dgA_size, dgA_get hk, dgA_get hk]
  by_cases h : 0 ≤ k ∧ k < 0 + 16
  · rw [if_pos h, dgA_get (by omega)]
    congr 2
    unfold w5F
    repeat' split
    all_goals first | rfl | omega
  · rw [if_neg h]
    congr 2
    unfold w5F
    repeat' split
    all_goals first | rfl | omega

theorem w5_put1 (a b c d e v : Nat) : ∀ k, k < (dgA 80 (w5F a b c d e)).size → (dgA 80 (w5F a v c d e))[k]? = if 16 ≤ k ∧ k < 16 + (dgA 16 (dig v)).size then (dgA 16 (dig v))[k - 16]? else (dgA 80 (w5F a b c d e))[k]? := fun k hk => by
  rw [dgA_size] at hk
  rw [dgA_size, dgA_get hk, dgA_get hk]
  by_cases h : 16 ≤ k ∧ k < 16 + 16
  · rw [if_pos h, dgA_get (by omega)]
    congr 2
    unfold w5F
    repeat' split
    all_goals first | rfl | omega
  · rw [if_neg h]
    congr 2
    unfold w5F
    repeat' split
    all_goals first | rfl | omega

theorem w5_put2 (a b c d e v : Nat) : ∀ k, k < (dgA 80 (w5F a b c d e)).size → (dgA 80 (w5F a b v d e))[k]? = if 32 ≤ k ∧ k < 32 + (dgA 16 (dig v)).size then (dgA 16 (dig v))[k - 32]? else (dgA 80 (w5F a b c d e))[k]? := fun k hk => by
  rw [dgA_size] at hk
  rw [dgA_size, dgA_get hk, dgA_get hk]
  by_cases h : 32 ≤ k ∧ k < 32 + 16
  · rw [if_pos h, dgA_get (by omega)]
    congr 2
    unfold w5F
    repeat' split
    all_goals first | rfl | omega
  · rw [if_neg h]
    congr 2
    unfold w5F
    repeat' split
    all_goals first | rfl | omega

theorem w5_put3 (a b c d e v : Nat) : ∀ k, k < (dgA 80 (w5F a b c d e)).size → (dgA 80 (w5F a b c v e))[k]? = if 48 ≤ k ∧ k < 48 + (dgA 16 (dig v)).size then (dgA 16 (dig v))[k - 48]? else (dgA 80 (w5F a b c d e))[k]? := fun k hk => by
  rw [dgA_size] at hk
  rw [dgA_size, dgA_get hk, dgA_get hk]
  by_cases h : 48 ≤ k ∧ k < 48 + 16
  · rw [if_pos h, dgA_get (by omega)]
    congr 2
    unfold w5F
    repeat' split
    all_goals first | rfl | omega
  · rw [if_neg h]
    congr 2
    unfold w5F
    repeat' split
    all_goals first | rfl | omega

theorem w5_put4 (a b c d e v : Nat) : ∀ k, k < (dgA 80 (w5F a b c d e)).size → (dgA 80 (w5F a b c d v))[k]? = if 64 ≤ k ∧ k < 64 + (dgA 16 (dig v)).size then (dgA 16 (dig v))[k - 64]? else (dgA 80 (w5F a b c d e))[k]? := fun k hk => by
  rw [dgA_size] at hk
  rw [dgA_size, dgA_get hk, dgA_get hk]
  by_cases h : 64 ≤ k ∧ k < 64 + 16
  · rw [if_pos h, dgA_get (by omega)]
    congr 2
    unfold w5F
    repeat' split
    all_goals first | rfl | omega
  · rw [if_neg h]
    congr 2
    unfold w5F
    repeat' split
    all_goals first | rfl | omega

theorem isE_of {vs : List Nat} {q x : Nat} (h : vs[q]? = some x) : IsE (vs.flatMap elL) q x :=
  ⟨flat_get vs q x 0 h (by decide), flat_get vs q x 1 h (by decide), flat_get vs q x 2 h (by decide), flat_get vs q x 3 h (by decide)⟩
/-- AddSub over two elements of one row. -/
theorem asH5 (i qx qy : Nat) {D : Nat → Bool} {w0 : World} {η : List (Nat × Obj)} {b T x y : Nat} {vs : List Nat} (hi : η[i]? = some (b, obE vs T)) (hx : vs[qx]? = some x) (hy : vs[qy]? = some y) (hD : w0.heap.size ≤ b ∨ D b = true) (lx : x < 2 ^ 256) (ly : y < 2 ^ 256) :
    ∀ w, Hold D w0 η w → Calls Tryd.prog 44 #[.pointer (some ⟨b, 32 * qx, none⟩), .pointer (some ⟨b, 32 * qy, none⟩)] w fun e w' => ∃ r : Nat × Nat, (r.1 < 2 ^ 256 ∧ r.2 < 2 ^ 256 ∧ r.1 % p25 = (x + y) % p25 ∧ (r.2 + y) % p25 = x % p25) ∧ e = .returned (.tuple #[]) ∧ Hold D w0 (η.set i (b, obE ((vs.set qy r.2).set qx r.1) T)) w' := fun w hw => by
  have lqx : qx < vs.length := (List.getElem?_eq_some_iff.1 hx).1
  have lqy : qy < vs.length := (List.getElem?_eq_some_iff.1 hy).1
  refine (fpAddSubA (ls := vs.flatMap elL) (hw.at hi) (isE_of hx) (isE_of hy) lx ly).mono fun e w' ⟨r, r2, hr, hr2, hR, hR2, he, hB, hO⟩ => ⟨(r, r2), ⟨hr, hr2, hR, hR2⟩, he, ?_⟩
  refine hw.put hi hD hO.os hO.tape hO.output hO.size hO.block ?_
  rw [flat_putE vs qy r2 lqy, flat_putE (vs.set qy r2) qx r (by simpa using lqx)] at hB
  exact hB
/-- AddSub over two elements in blocks of their own. -/
theorem asH2 (i j : Nat) {D : Nat → Bool} {w0 : World} {η : List (Nat × Obj)} {b c T U x y : Nat} (hi : η[i]? = some (b, .cells (byA 32 x) T (0, 0))) (hj : η[j]? = some (c, .cells (byA 32 y) U (0, 0))) (hn : i ≠ j) (hD : w0.heap.size ≤ b ∨ D b = true) (hE : w0.heap.size ≤ c ∨ D c = true) (lx : x < 2 ^ 256) (ly : y < 2 ^ 256) :
    ∀ w, Hold D w0 η w → Calls Tryd.prog 44 #[.pointer (some ⟨b, 0, none⟩), .pointer (some ⟨c, 0, none⟩)] w fun e w' => ∃ r : Nat × Nat, (r.1 < 2 ^ 256 ∧ r.2 < 2 ^ 256 ∧ r.1 % p25 = (x + y) % p25 ∧ (r.2 + y) % p25 = x % p25) ∧ e = .returned (.tuple #[]) ∧ Hold D w0 ((η.set i (b, .cells (byA 32 r.1) T (0, 0))).set j (c, .cells (byA 32 r.2) U (0, 0))) w' := fun w hw => by
  have hne : b ≠ c := fun e => by
    have n := List.pairwise_iff_getElem.1 hw.nd
    obtain ⟨li, gi⟩ := List.getElem?_eq_some_iff.1 hi
    obtain ⟨lj, gj⟩ := List.getElem?_eq_some_iff.1 hj
    rcases Nat.lt_or_gt_of_ne hn with h | h
    · exact n i j (by simpa using li) (by simpa using lj) h (by simp [gi, gj, e])
    · exact n j i (by simpa using lj) (by simpa using li) h (by simp [gi, gj, e])
  refine (fpAddSubB (ix := 0) (iy := 0) (blk_el (hw.at hi)) (blk_el (hw.at hj)) (isE_el x) (isE_el y) hne lx ly).mono fun e w' ⟨r, r2, hr, hr2, hR, hR2, he, hB, hB2, hO⟩ => ⟨(r, r2), ⟨hr, hr2, hR, hR2⟩, he, ?_⟩
  rw [putE_el] at hB hB2
  exact hw.put2 hi hj hn hD hE hO.os hO.tape hO.output hO.size hO.block hB.row hB2.row rfl
/-- What a step of the ladder computes, told modulo the prime. -/
theorem step_law {w0 w1 w2 w3 w4 m a b c d t0 t1 e f x2 z2 x3 z3 z3' x2' z2' s t t' x2'' z2'' : Nat} (hm : m ≤ 1)
    (ha : a % p25 = (w1 + w2) % p25) (hb : (b + w2) % p25 = w1 % p25) (hc : c % p25 = (w3 + w4) % p25) (hd : (d + w4) % p25 = w3 % p25)
    (h0 : t0 % p25 = a * d % p25) (h1 : t1 % p25 = c * b % p25) (he : e % p25 = (t0 + t1) % p25) (hf : (f + t1) % p25 = t0 % p25) (hx2 : x2 = selN m a c) (hz2 : z2 = selN m b d)
    (hx3 : x3 % p25 = e * e % p25) (hz3 : z3 % p25 = f * f % p25) (hz3' : z3' % p25 = w0 * z3 % p25) (hx2' : x2' % p25 = x2 * x2 % p25) (hz2' : z2' % p25 = z2 * z2 % p25)
    (hs : (s + z2') % p25 = x2' % p25) (ht : t % p25 = s * 121666 % p25) (ht' : t' % p25 = (t + z2') % p25) (hx : x2'' % p25 = x2' * z2' % p25) (hz : z2'' % p25 = s * t' % p25) :
    x2'' % p25 = (dN m w1 w2 w3 w4).1 ∧ z2'' % p25 = (dN m w1 w2 w3 w4).2 ∧ x3 % p25 = (aN m w0 w1 w2 w3 w4).1 ∧ z3' % p25 = (aN m w0 w1 w2 w3 w4).2 := by
  have hp0 : 0 < p25 := by decide +kernel
  have zn : ∀ {x y : Nat}, x % p25 = y % p25 → Num.Z p25 ((x : Int) - y) := fun {x y} h => by
    have h1 := Num.Z.mod p25 x
    have h3 := Num.Z.mod p25 y
    rw [h] at h1
    exact Num.Z.lin2 (-1) 1 h1 h3 (by grind)
  have nz : ∀ {x y : Nat}, Num.Z p25 ((x : Int) - y) → x % p25 = y % p25 := fun {x y} h => by
    have h1 : ((x : Int) % p25) = (y : Int) % p25 := Int.emod_eq_emod_iff_emod_sub_eq_zero.2 (Int.emod_eq_zero_of_dvd h)
    exact_mod_cast h1
  have ha := zn ha
  have hb := zn hb
  have hc := zn hc
  have hd := zn hd
  have h0 := zn h0
  have h1 := zn h1
  have he := zn he
  have hf := zn hf
  have hx3 := zn hx3
  have hz3 := zn hz3
  have hz3' := zn hz3'
  have hx2' := zn hx2'
  have hz2' := zn hz2'
  have hs := zn hs
  have ht := zn ht
  have ht' := zn ht'
  have hx := zn hx
  have hz := zn hz
  simp only [Int.natCast_add, Int.natCast_mul] at ha hb hc hd h0 h1 he hf hx3 hz3 hz3' hx2' hz2' hs ht ht' hx hz
  have c121 : ((121666 : Nat) : Int) = 121666 := rfl
  rw [c121] at ht
  -- the sums and differences
  have kb : Num.Z p25 ((b : Int) - (w1 - w2)) := hb.lin1 1 (by grind)
  have kd : Num.Z p25 ((d : Int) - (w3 - w4)) := hd.lin1 1 (by grind)
  have k0 := h0.trans (ha.mulc kd)
  have k1 := h1.trans (hc.mulc kb)
  have ke := he.trans (k0.addc k1)
  have kf : Num.Z p25 ((f : Int) - (((w1 + w2 : Int) * (w3 - w4)) - ((w3 + w4 : Int) * (w1 - w2)))) := Num.Z.lin3 1 1 (-1) hf k0 k1 (by grind)
  have kx3 := hx3.trans (ke.mulc ke)
  have kz3 := hz3'.trans ((Num.Z.rfl' (p := p25) (w0 : Int)).mulc (hz3.trans (kf.mulc kf)))
  -- the double, by the chosen pair
  have dbl : ∀ u v : Nat, Num.Z p25 ((x2 : Int) - (u + v)) → Num.Z p25 ((z2 : Int) - (u - v)) → x2'' % p25 = (Num.dblN p25 u v).1 ∧ z2'' % p25 = (Num.dblN p25 u v).2 := fun u v hu hv => by
    obtain ⟨e1, e2⟩ := Num.dblN_z hp0 u v
    have kx := hx2'.trans (hu.mulc hu)
    have kz := hz2'.trans (hv.mulc hv)
    have ks : Num.Z p25 ((s : Int) - (((u + v : Int) * (u + v)) - ((u - v : Int) * (u - v)))) := Num.Z.lin3 1 1 (-1) hs kx kz (by grind)
    have kt := ht.trans (ks.mulc (Num.Z.rfl' (p := p25) (121666 : Int)))
    have kt' := ht'.trans (kt.addc kz)
    have r1 := hx.trans (kx.mulc kz)
    have r2 := hz.trans (ks.mulc kt')
    have l1 : (Num.dblN p25 u v).1 % p25 = (Num.dblN p25 u v).1 := Nat.mod_mod _ _
    have l2 : (Num.dblN p25 u v).2 % p25 = (Num.dblN p25 u v).2 := Nat.mod_mod _ _
    refine ⟨?_, ?_⟩
    · rw [← l1]; exact nz (Num.Z.lin2 1 (-1) r1 e1 (by grind))
    · rw [← l2]; exact nz (Num.Z.lin2 1 (-1) r2 e2 (by grind))
  have add : ∀ p q r t : Nat, Num.Z p25 ((x3 : Int) - 4*((p : Int)*r - q*t)^2) → Num.Z p25 ((z3' : Int) - 4*w0*((r : Int)*q - p*t)^2) → x3 % p25 = (Num.addN p25 w0 p q r t).1 ∧ z3' % p25 = (Num.addN p25 w0 p q r t).2 := fun p q r t hu hv => by
    obtain ⟨e1, e2⟩ := Num.addN_z hp0 w0 p q r t
    have l1 : (Num.addN p25 w0 p q r t).1 % p25 = (Num.addN p25 w0 p q r t).1 := Nat.mod_mod _ _
    have l2 : (Num.addN p25 w0 p q r t).2 % p25 = (Num.addN p25 w0 p q r t).2 := Nat.mod_mod _ _
    refine ⟨?_, ?_⟩
    · rw [← l1]; exact nz (Num.Z.lin2 1 (-1) hu e1 (by grind))
    · rw [← l2]; exact nz (Num.Z.lin2 1 (-1) hv e2 (by grind))
  rcases (show m = 0 ∨ m = 1 by omega) with rfl | rfl
  · have ex : x2 = a := hx2
    have ez : z2 = b := hz2
    obtain ⟨r1, r2⟩ := dbl w1 w2 (by rw [ex]; exact ha) (by rw [ez]; exact kb)
    obtain ⟨r3, r4⟩ := add w1 w2 w3 w4 (kx3.lin1 1 (by grind)) (kz3.lin1 1 (by grind))
    exact ⟨r1, r2, r3, r4⟩
  · have ex : x2 = c := hx2
    have ez : z2 = d := hz2
    obtain ⟨r1, r2⟩ := dbl w3 w4 (by rw [ex]; exact hc) (by rw [ez]; exact kd)
    obtain ⟨r3, r4⟩ := add w3 w4 w1 w2 (kx3.lin1 1 (by grind)) (kz3.lin1 1 (by grind))
    exact ⟨r1, r2, r3, r4⟩
end Go.Proofs.YteehdjkmjncehaaDoor
