/-
  Polynomials over the small field and their transforms: plain numbers.
-/
import Derived.Test.YtgdfdkpkhjbibaaDoorMont
namespace Go.Proofs.YtgdfdkpkhjbibaaDoor
/-- The same modulo the order. -/
def Cg (a b : Nat) : Prop := a % pf = b % pf
theorem Cg.refl (a : Nat) : Cg a a := rfl
theorem Cg.symm {a b : Nat} (h : Cg a b) : Cg b a := Eq.symm h
theorem Cg.trans {a b c : Nat} (h : Cg a b) (g : Cg b c) : Cg a c := Eq.trans h g
theorem Cg.add {a b c d : Nat} (h : Cg a b) (g : Cg c d) : Cg (a + c) (b + d) := by
  unfold Cg at *; rw [Nat.add_mod, h, g, ← Nat.add_mod]
theorem Cg.mul {a b c d : Nat} (h : Cg a b) (g : Cg c d) : Cg (a * c) (b * d) := by
  unfold Cg at *; rw [Nat.mul_mod, h, g, ← Nat.mul_mod]
theorem Cg.pow {a b : Nat} (h : Cg a b) (n : Nat) : Cg (a ^ n) (b ^ n) := by
  unfold Cg at *; rw [Nat.pow_mod, h, ← Nat.pow_mod]
theorem Cg.mod (a : Nat) : Cg (a % pf) a := Nat.mod_mod _ _
theorem Cg.eq {a b : Nat} (h : Cg a b) (ha : a < pf) (hb : b < pf) : a = b := by
  unfold Cg at h; rwa [Nat.mod_eq_of_lt ha, Nat.mod_eq_of_lt hb] at h
theorem Cg.of_eq {a b : Nat} (h : a = b) : Cg a b := h ▸ Cg.refl a
theorem Cg.cancel {a b c : Nat} (h : Cg (a + c) (b + c)) : Cg a b := by
  have h2 : Cg (a + c + (pf - c % pf)) (b + c + (pf - c % pf)) := h.add (Cg.refl _)
  have hc := Nat.mod_lt c pf_pos
  have e : ∀ x, Cg (x + c + (pf - c % pf)) x := fun x => by
    have h3 : Cg (x + c + (pf - c % pf)) (x + c % pf + (pf - c % pf)) := ((Cg.refl x).add (Cg.mod c).symm).add (Cg.refl _)
    refine h3.trans ?_
    rw [show x + c % pf + (pf - c % pf) = x + pf by omega]
    unfold Cg; rw [Nat.add_mod_right]
  exact ((e a).symm.trans h2).trans (e b)
theorem cg_sub {a b : Nat} (hb : b < pf) : Cg (subF a b + b) a := by
  rw [subF_eq]
  refine ((Cg.mod _).add (Cg.refl b)).trans ?_
  rw [show a + (pf - b) + b = a + pf by omega]
  unfold Cg; rw [Nat.add_mod_right]
theorem sub_of_cg {a b r : Nat} (hb : b < pf) (hr : r < pf) (h : Cg (r + b) a) : r = subF a b :=
  (Cg.cancel (h.trans (cg_sub hb).symm)).eq hr (subF_lt a b)
/-! ### Sums -/
def sumN : Nat → (Nat → Nat) → Nat
  | 0, _ => 0
  | n + 1, f => sumN n f + f n
theorem sumN_congr {f g : Nat → Nat} : ∀ n, (∀ k, k < n → f k = g k) → sumN n f = sumN n g
  | 0, _ => rfl
  | n + 1, h => by
    show sumN n f + f n = sumN n g + g n
    rw [sumN_congr n (fun k hk => h k (by omega)), h n (by omega)]
theorem sumN_cg {f g : Nat → Nat} : ∀ n, (∀ k, k < n → Cg (f k) (g k)) → Cg (sumN n f) (sumN n g)
  | 0, _ => Cg.refl _
  | n + 1, h => (sumN_cg n (fun k hk => h k (by omega))).add (h n (by omega))
theorem sumN_zero : ∀ n, sumN n (fun _ => 0) = 0
  | 0 => rfl
  | n + 1 => by show sumN n (fun _ => 0) + 0 = 0; rw [sumN_zero n]
theorem sumN_add (f g : Nat → Nat) : ∀ n, sumN n (fun k => f k + g k) = sumN n f + sumN n g
  | 0 => rfl
  | n + 1 => by
    show sumN n (fun k => f k + g k) + (f n + g n) = (sumN n f + f n) + (sumN n g + g n)
    rw [sumN_add f g n]; omega
theorem sumN_mul (c : Nat) (f : Nat → Nat) : ∀ n, sumN n (fun k => c * f k) = c * sumN n f
  | 0 => rfl
  | n + 1 => by
    show sumN n (fun k => c * f k) + c * f n = c * (sumN n f + f n)
    rw [sumN_mul c f n, Nat.mul_add]
theorem sumN_swap (f : Nat → Nat → Nat) (m : Nat) : ∀ n, sumN n (fun k => sumN m (fun s => f k s)) = sumN m (fun s => sumN n (fun k => f k s))
  | 0 => by
    show 0 = sumN m (fun _ => 0)
    rw [sumN_zero]
  | n + 1 => by
    show sumN n (fun k => sumN m (fun s => f k s)) + sumN m (fun s => f n s) = sumN m (fun s => sumN n (fun k => f k s) + f n s)
    rw [sumN_add, sumN_swap f m n]
theorem sumN_first (f : Nat → Nat) : ∀ n, sumN (n + 1) f = f 0 + sumN n (fun k => f (k + 1))
  | 0 => by show 0 + f 0 = f 0 + 0; omega
  | n + 1 => by
    show sumN (n + 1) f + f (n + 1) = f 0 + (sumN n (fun k => f (k + 1)) + f (n + 1))
    rw [sumN_first f n]; omega
theorem sumN_more {f : Nat → Nat} {n : Nat} (h : ∀ k, n ≤ k → f k = 0) : ∀ m, sumN (n + m) f = sumN n f
  | 0 => rfl
  | m + 1 => by
    show sumN (n + m) f + f (n + m) = sumN n f
    rw [h (n + m) (by omega), sumN_more h m]; omega
theorem sumN_to {f : Nat → Nat} {n m : Nat} (h : ∀ k, n ≤ k → f k = 0) (g : ∀ k, m ≤ k → f k = 0) : sumN n f = sumN m f := by
  rcases Nat.le_total n m with e | e
  · obtain ⟨d, rfl⟩ := Nat.exists_eq_add_of_le e; exact (sumN_more h d).symm
  · obtain ⟨d, rfl⟩ := Nat.exists_eq_add_of_le e; exact sumN_more g d
theorem sumN_one {f : Nat → Nat} {j : Nat} (h : ∀ k, k ≠ j → f k = 0) : ∀ n, j < n → sumN n f = f j
  | 0, hj => absurd hj (by omega)
  | n + 1, hj => by
    show sumN n f + f n = f j
    by_cases e : j = n
    · subst e
      rw [sumN_congr (g := fun _ => 0) j (fun k hk => h k (by omega)), sumN_zero]; omega
    · rw [sumN_one h n (by omega), h n (by omega)]; omega
theorem sumN_flip (f : Nat → Nat) : ∀ n, sumN n f = sumN n (fun k => f (n - 1 - k))
  | 0 => rfl
  | n + 1 => by
    rw [sumN_first (fun k => f (n + 1 - 1 - k)) n]
    show sumN n f + f n = f (n + 1 - 1 - 0) + sumN n (fun k => f (n + 1 - 1 - (k + 1)))
    rw [sumN_flip f n, show n + 1 - 1 - 0 = n by omega, sumN_congr (f := fun k => f (n - 1 - k)) (g := fun k => f (n + 1 - 1 - (k + 1))) n (fun k _ => by rw [show n + 1 - 1 - (k + 1) = n - 1 - k by omega])]
    omega
/-! ### Values -/
/-- A polynomial's value, not reduced. -/
def evN (n : Nat) (x : Nat → Nat) (z : Nat) : Nat := sumN n (fun s => x s * z ^ s)
theorem evN_cg (n : Nat) (x : Nat → Nat) {z z' : Nat} (h : Cg z z') : Cg (evN n x z) (evN n x z') := sumN_cg n fun k _ => (Cg.refl _).mul (h.pow k)
theorem evN_cgx (n : Nat) {x y : Nat → Nat} (z : Nat) (h : ∀ s, s < n → Cg (x s) (y s)) : Cg (evN n x z) (evN n y z) := sumN_cg n fun k hk => (h k hk).mul (Cg.refl _)
theorem evN_first (n : Nat) (x : Nat → Nat) (z : Nat) : evN (n + 1) x z = x 0 + z * evN n (fun s => x (s + 1)) z := by
  unfold evN
  rw [sumN_first, Nat.pow_zero, Nat.mul_one, ← sumN_mul]
  congr 1
  exact sumN_congr n fun k _ => by rw [Nat.pow_succ]; grind
theorem evN_more {x : Nat → Nat} {n m : Nat} (z : Nat) (h : ∀ k, n ≤ k → x k = 0) (hm : n ≤ m) : evN m x z = evN n x z := by
  obtain ⟨d, rfl⟩ := Nat.exists_eq_add_of_le hm
  exact sumN_more (fun k hk => by rw [h k hk, Nat.zero_mul]) d
theorem evN_split (z : Nat) : ∀ (n : Nat) (x : Nat → Nat), evN (2 * n) x z = evN n (fun s => x (2 * s)) (z * z) + z * evN n (fun s => x (2 * s + 1)) (z * z)
  | 0, _ => rfl
  | n + 1, x => by
    rw [show 2 * (n + 1) = (2 * n + 1) + 1 by omega, evN_first, evN_first, evN_split z n, evN_first, evN_first]
    simp only [show ∀ s, 2 * (s + 1) = 2 * s + 1 + 1 from fun s => by omega]
    grind
/-- The value as it is told. -/
def evL : List Nat → Nat → Nat
  | [], _ => 0
  | a :: l, z => (evL l z * z % pf + a) % pf
theorem evL_lt : ∀ (l : List Nat) (z : Nat), evL l z < pf
  | [], _ => pf_pos
  | _ :: _, _ => Nat.mod_lt _ pf_pos
theorem evL_cg (z : Nat) : ∀ l : List Nat, Cg (evL l z) (evN l.length (fun s => l.getD s 0) z)
  | [] => Cg.refl _
  | a :: l => by
    rw [List.length_cons, evN_first]
    refine (Cg.mod _).trans ?_
    refine (((Cg.mod _).trans ((evL_cg z l).mul (Cg.refl z))).add (Cg.refl a)).trans (Cg.of_eq ?_)
    simp only [List.getD_cons_zero, List.getD_cons_succ]
    grind
theorem evL_drop {l : List Nat} {i : Nat} (z : Nat) (h : i < l.length) : evL (l.drop i) z = (evL (l.drop (i + 1)) z * z % pf + l.getD i 0) % pf := by
  rw [List.drop_eq_getElem_cons h]
  show (evL (l.drop (i + 1)) z * z % pf + l[i]) % pf = _
  simp [List.getD, h]
theorem evL_cgz (l : List Nat) {z z' : Nat} (h : Cg z z') : evL l z = evL l z' := ((evL_cg z l).trans ((evN_cg _ _ h).trans (evL_cg z' l).symm)).eq (evL_lt _ _) (evL_lt _ _)
/-! ### Powers -/
/-- A power by its exponent's bits. -/
def pwF : Nat → Nat → Nat → Nat
  | 0, _, _ => 1
  | k + 1, a, e => if e % 2 = 1 then pwF k a (e / 2) * pwF k a (e / 2) % pf * a % pf else pwF k a (e / 2) * pwF k a (e / 2) % pf
theorem pwF_eq (a : Nat) : ∀ k e, e < 2 ^ k → pwF k a e % pf = a ^ e % pf
  | 0, e, h => by
    have : e = 0 := by rw [Nat.pow_zero] at h; omega
    subst this; rfl
  | k + 1, e, h => by
    have ih := pwF_eq a k (e / 2) (by rw [Nat.pow_succ] at h; omega)
    have hc : Cg (pwF k a (e / 2)) (a ^ (e / 2)) := ih
    have he : a ^ e = a ^ (e / 2) * a ^ (e / 2) * a ^ (e % 2) := by
      rw [← Nat.pow_add, ← Nat.pow_add]; congr 1; omega
    rw [he]
    unfold pwF
    split
    · next h1 => rw [h1, Nat.pow_one, Nat.mod_mod]; exact ((Cg.mod _).trans (hc.mul hc)).mul (Cg.refl a)
    · next h1 => rw [show e % 2 = 0 by omega, Nat.pow_zero, Nat.mul_one, Nat.mod_mod]; exact hc.mul hc
/-- One step of a product by bits. -/
theorem mul_bit0 {a b q : Nat} (h : b / 2 ^ q % 2 ≠ 1) : (a * (b / 2 ^ (q + 1)) % pf + a * (b / 2 ^ (q + 1)) % pf) % pf = a * (b / 2 ^ q) % pf := by
  have e : b / 2 ^ q = 2 * (b / 2 ^ (q + 1)) := by rw [Nat.pow_succ, ← Nat.div_div_eq_div_mul]; omega
  rw [e, ← Nat.add_mod]; congr 1; grind
theorem mul_bit1 {a b q : Nat} (h : b / 2 ^ q % 2 = 1) : ((a * (b / 2 ^ (q + 1)) % pf + a * (b / 2 ^ (q + 1)) % pf) % pf + a) % pf = a * (b / 2 ^ q) % pf := by
  have e : b / 2 ^ q = 2 * (b / 2 ^ (q + 1)) + 1 := by rw [Nat.pow_succ, ← Nat.div_div_eq_div_mul]; omega
  rw [e, ← Nat.add_mod, Nat.mod_add_mod]; congr 1; grind
theorem pow_bit0 {a b q : Nat} (h : b / 2 ^ q % 2 ≠ 1) : a ^ (b / 2 ^ (q + 1)) % pf * (a ^ (b / 2 ^ (q + 1)) % pf) % pf = a ^ (b / 2 ^ q) % pf := by
  have e : b / 2 ^ q = b / 2 ^ (q + 1) + b / 2 ^ (q + 1) := by rw [Nat.pow_succ, ← Nat.div_div_eq_div_mul]; omega
  rw [e, ← Nat.mul_mod]
  generalize b / 2 ^ (q + 1) = c
  rw [Nat.pow_add]
theorem pow_bit1 {a b q : Nat} (h : b / 2 ^ q % 2 = 1) : a ^ (b / 2 ^ (q + 1)) % pf * (a ^ (b / 2 ^ (q + 1)) % pf) % pf * a % pf = a ^ (b / 2 ^ q) % pf := by
  have e : b / 2 ^ q = b / 2 ^ (q + 1) + b / 2 ^ (q + 1) + 1 := by rw [Nat.pow_succ, ← Nat.div_div_eq_div_mul]; omega
  rw [e, ← Nat.mul_mod, Nat.mod_mul_mod]
  generalize b / 2 ^ (q + 1) = c
  rw [Nat.pow_succ, Nat.pow_add]
/-! ### The transform -/
/-- The bits of j, m of them, the other way round. -/
def rev : Nat → Nat → Nat
  | 0, _ => 0
  | m + 1, j => rev m (j / 2) + j % 2 * 2 ^ m
theorem rev_lt : ∀ m j, rev m j < 2 ^ m
  | 0, _ => by show (0 : Nat) < 1; decide
  | m + 1, j => by
    have h := rev_lt m (j / 2)
    have h2 : j % 2 * 2 ^ m ≤ 1 * 2 ^ m := Nat.mul_le_mul_right _ (by omega)
    show rev m (j / 2) + j % 2 * 2 ^ m < 2 ^ (m + 1)
    rw [Nat.pow_succ]; omega
theorem rev_even (m j : Nat) : rev (m + 1) (2 * j) = rev m j := by
  show rev m (2 * j / 2) + 2 * j % 2 * 2 ^ m = rev m j
  rw [show 2 * j / 2 = j by omega, show 2 * j % 2 = 0 by omega]; omega
theorem rev_odd (m j : Nat) : rev (m + 1) (2 * j + 1) = rev m j + 2 ^ m := by
  show rev m ((2 * j + 1) / 2) + (2 * j + 1) % 2 * 2 ^ m = rev m j + 2 ^ m
  rw [show (2 * j + 1) / 2 = j by omega, show (2 * j + 1) % 2 = 1 by omega]; omega
/-- What place e holds behind stage l of n: w tells the roots, x what is transformed. -/
def stage (w x : Nat → Nat) (n l e : Nat) : Nat := evN (2 ^ l) (fun s => x (rev (n - l) (e / 2 ^ l) + s * 2 ^ (n - l))) (w l ^ (e % 2 ^ l)) % pf
theorem stage_lt (w x : Nat → Nat) (n l e : Nat) : stage w x n l e < pf := Nat.mod_lt _ pf_pos
theorem stage_zero (w : Nat → Nat) {x : Nat → Nat} (hx : ∀ s, x s < pf) (n e : Nat) : stage w x n 0 e = x (rev n e) := by
  unfold stage evN
  show (0 + x (rev n (e / 1) + 0 * 2 ^ (n - 0)) * _ ^ 0) % pf = _
  rw [Nat.zero_mul, Nat.div_one, Nat.pow_zero, Nat.mul_one, Nat.zero_add, Nat.add_zero, Nat.mod_eq_of_lt (hx _)]
theorem stage_end (w x : Nat → Nat) {n e : Nat} (he : e < 2 ^ n) : stage w x n n e = evN (2 ^ n) x (w n ^ e) % pf := by
  unfold stage
  rw [Nat.sub_self, Nat.mod_eq_of_lt he]
  simp only [rev, Nat.pow_zero, Nat.mul_one, Nat.zero_add]
theorem stage_parts (w x : Nat → Nat) {n l : Nat} (hl : l < n) {j i : Nat} (hi : i < 2 ^ l) :
    stage w x n l (j * 2 ^ (l + 1) + i) = evN (2 ^ l) (fun s => x (rev (n - (l + 1)) j + (2 * s) * 2 ^ (n - (l + 1)))) (w l ^ i) % pf ∧
    stage w x n l (j * 2 ^ (l + 1) + i + 2 ^ l) = evN (2 ^ l) (fun s => x (rev (n - (l + 1)) j + (2 * s + 1) * 2 ^ (n - (l + 1)))) (w l ^ i) % pf := by
  have hp : 0 < 2 ^ l := Nat.pow_pos (by decide)
  have e1 : j * 2 ^ (l + 1) + i = 2 ^ l * (2 * j) + i := by rw [Nat.pow_succ]; grind
  have e2 : j * 2 ^ (l + 1) + i + 2 ^ l = 2 ^ l * (2 * j + 1) + i := by rw [Nat.pow_succ]; grind
  have hn : n - l = (n - (l + 1)) + 1 := by omega
  unfold stage
  refine ⟨?_, ?_⟩
  · rw [e1, Nat.mul_add_div hp, Nat.mul_add_mod, Nat.div_eq_of_lt hi, Nat.mod_eq_of_lt hi, Nat.add_zero, hn, rev_even]
    congr 2; funext s; congr 2; rw [Nat.pow_succ]; grind
  · rw [e2, Nat.mul_add_div hp, Nat.mul_add_mod, Nat.div_eq_of_lt hi, Nat.mod_eq_of_lt hi, Nat.add_zero, hn, rev_odd]
    congr 2; funext s; congr 1; rw [Nat.pow_succ]; grind
theorem stage_next (w x : Nat → Nat) {n l : Nat} (hl : l < n) {j i : Nat} (hi : i < 2 ^ l) (hsq : Cg (w (l + 1) * w (l + 1)) (w l)) (hneg : Cg (w (l + 1) ^ 2 ^ l + 1) 0) :
    stage w x n (l + 1) (j * 2 ^ (l + 1) + i) = (stage w x n l (j * 2 ^ (l + 1) + i) + (w (l + 1) ^ i % pf) * stage w x n l (j * 2 ^ (l + 1) + i + 2 ^ l) % pf) % pf ∧
    stage w x n (l + 1) (j * 2 ^ (l + 1) + i + 2 ^ l) = subF (stage w x n l (j * 2 ^ (l + 1) + i)) ((w (l + 1) ^ i % pf) * stage w x n l (j * 2 ^ (l + 1) + i + 2 ^ l) % pf) := by
  obtain ⟨h1, h2⟩ := stage_parts w x hl (j := j) hi
  have hp : 2 ^ (l + 1) = 2 ^ l + 2 ^ l := by rw [Nat.pow_succ]; omega
  have hsq2 : Cg (w (l + 1) ^ i * w (l + 1) ^ i) (w l ^ i) := by rw [← Nat.mul_pow]; exact hsq.pow i
  have a1 : stage w x n (l + 1) (j * 2 ^ (l + 1) + i) = evN (2 * 2 ^ l) (fun s => x (rev (n - (l + 1)) j + s * 2 ^ (n - (l + 1)))) (w (l + 1) ^ i) % pf := by
    unfold stage
    rw [show j * 2 ^ (l + 1) + i = 2 ^ (l + 1) * j + i by grind, Nat.mul_add_div (by omega), Nat.mul_add_mod, Nat.div_eq_of_lt (show i < 2 ^ (l + 1) by omega), Nat.mod_eq_of_lt (show i < 2 ^ (l + 1) by omega), Nat.add_zero]
    rw [show 2 * 2 ^ l = 2 ^ (l + 1) by omega]
    simp only [Nat.add_zero]
  have a2 : stage w x n (l + 1) (j * 2 ^ (l + 1) + i + 2 ^ l) = evN (2 * 2 ^ l) (fun s => x (rev (n - (l + 1)) j + s * 2 ^ (n - (l + 1)))) (w (l + 1) ^ (i + 2 ^ l)) % pf := by
    unfold stage
    rw [show j * 2 ^ (l + 1) + i + 2 ^ l = 2 ^ (l + 1) * j + (i + 2 ^ l) by grind, Nat.mul_add_div (by omega), Nat.mul_add_mod, Nat.div_eq_of_lt (show i + 2 ^ l < 2 ^ (l + 1) by omega), Nat.mod_eq_of_lt (show i + 2 ^ l < 2 ^ (l + 1) by omega), Nat.add_zero]
    rw [show 2 * 2 ^ l = 2 ^ (l + 1) by omega]
    simp only [Nat.add_zero]
  rw [a1, a2, h1, h2, evN_split, evN_split]
  generalize hE : (fun s => x (rev (n - (l + 1)) j + 2 * s * 2 ^ (n - (l + 1)))) = E
  generalize hO : (fun s => x (rev (n - (l + 1)) j + (2 * s + 1) * 2 ^ (n - (l + 1)))) = O
  generalize hz : w (l + 1) ^ i = z at *
  have q1 := evN_cg (2 ^ l) E hsq2
  have q2 := evN_cg (2 ^ l) O hsq2
  refine ⟨?_, ?_⟩
  · refine Cg.eq ?_ (Nat.mod_lt _ pf_pos) (Nat.mod_lt _ pf_pos)
    refine (Cg.mod _).trans (Cg.trans ?_ (Cg.mod _).symm)
    refine Cg.add (q1.trans (Cg.mod _).symm) (Cg.trans ?_ (Cg.mod _).symm)
    exact Cg.mul (Cg.mod _).symm (q2.trans (Cg.mod _).symm)
  · refine sub_of_cg (Nat.mod_lt _ pf_pos) (Nat.mod_lt _ pf_pos) ?_
    have hz2 : w (l + 1) ^ (i + 2 ^ l) = z * w (l + 1) ^ 2 ^ l := by rw [Nat.pow_add, hz]
    generalize w (l + 1) ^ 2 ^ l = m at *
    rw [hz2]
    have hm2 : Cg (m * m) 1 := by
      have h3 : Cg (m * m + m) (1 + m) := by
        have g1 : Cg (m * (m + 1)) (m * 0) := (Cg.refl m).mul hneg
        have g2 : m * m + m = m * (m + 1) := by grind
        rw [g2]
        refine g1.trans ?_
        rw [Nat.mul_zero, Nat.add_comm 1 m]; exact hneg.symm
      exact h3.cancel
    have r : Cg (z * m * (z * m)) (w l ^ i) := by
      rw [show z * m * (z * m) = (z * z) * (m * m) by grind]
      refine (hsq2.mul hm2).trans ?_
      rw [Nat.mul_one]; exact Cg.refl _
    have q3 := evN_cg (2 ^ l) E r
    have q4 := evN_cg (2 ^ l) O r
    have f1 : Cg ((evN (2 ^ l) E (z * m * (z * m)) + z * m * evN (2 ^ l) O (z * m * (z * m))) % pf + z % pf * (evN (2 ^ l) O (w l ^ i) % pf) % pf)
        ((evN (2 ^ l) E (w l ^ i) + z * m * evN (2 ^ l) O (w l ^ i)) + z * evN (2 ^ l) O (w l ^ i)) := by
      refine Cg.add ((Cg.mod _).trans (q3.add ((Cg.refl _).mul q4))) ((Cg.mod _).trans ((Cg.mod _).mul (Cg.mod _)))
    refine f1.trans (Cg.trans ?_ (Cg.mod _).symm)
    rw [show evN (2 ^ l) E (w l ^ i) + z * m * evN (2 ^ l) O (w l ^ i) + z * evN (2 ^ l) O (w l ^ i) = evN (2 ^ l) E (w l ^ i) + z * evN (2 ^ l) O (w l ^ i) * (m + 1) by grind]
    have f2 := (Cg.refl (evN (2 ^ l) E (w l ^ i))).add ((Cg.refl (z * evN (2 ^ l) O (w l ^ i))).mul hneg)
    rwa [Nat.mul_zero, Nat.add_zero] at f2
/-! ### Back -/
/-- The sum of a root's powers. -/
theorem orth {w : Nat → Nat} (h0 : Cg (w 0) 1) (L : Nat) (hsq : ∀ l, l < L → Cg (w (l + 1) * w (l + 1)) (w l)) (hneg : ∀ l, l < L → Cg (w (l + 1) ^ 2 ^ l + 1) 0) :
    ∀ l, l ≤ L → ∀ m, Cg (evN (2 ^ l) (fun _ => 1) (w l ^ m)) (if m % 2 ^ l = 0 then 2 ^ l else 0)
  | 0, _, m => by
    rw [if_pos (Nat.mod_one m)]
    show Cg (0 + 1 * _ ^ 0) 1
    rw [Nat.pow_zero]; exact Cg.refl _
  | l + 1, hl, m => by
    have ih := orth h0 L hsq hneg l (by omega) m
    rw [Nat.pow_succ, Nat.mul_comm, evN_split]
    have h1 : Cg (w (l + 1) ^ m * w (l + 1) ^ m) (w l ^ m) := by rw [← Nat.mul_pow]; exact (hsq l (by omega)).pow m
    have h2 := (evN_cg (2 ^ l) (fun _ => 1) h1).trans ih
    have h3 : Cg (evN (2 ^ l) (fun _ => 1) (w (l + 1) ^ m * w (l + 1) ^ m) + w (l + 1) ^ m * evN (2 ^ l) (fun _ => 1) (w (l + 1) ^ m * w (l + 1) ^ m)) ((w (l + 1) ^ m + 1) * (if m % 2 ^ l = 0 then 2 ^ l else 0)) := by
      refine (h2.add ((Cg.refl _).mul h2)).trans (Cg.of_eq ?_)
      grind
    refine h3.trans ?_
    by_cases hm : m % 2 ^ l = 0
    · rw [if_pos hm]
      have hd : m = 2 ^ l * (m / 2 ^ l) := by have := Nat.div_add_mod m (2 ^ l); omega
      generalize m / 2 ^ l = q at hd
      subst hd
      have hpw : w (l + 1) ^ (2 ^ l * q) = (w (l + 1) ^ 2 ^ l) ^ q := Nat.pow_mul _ _ _
      have hn := hneg l (by omega)
      rw [hpw]
      generalize w (l + 1) ^ 2 ^ l = u at *
      have hm2 : Cg (u * u) 1 := by
        have g1 : Cg (u * (u + 1)) (u * 0) := (Cg.refl u).mul hn
        have h3 : Cg (u * u + u) (1 + u) := by
          rw [show u * u + u = u * (u + 1) by grind]
          refine g1.trans ?_
          rw [Nat.mul_zero, Nat.add_comm 1 u]; exact hn.symm
        exact h3.cancel
      have hpos : 0 < 2 ^ l := Nat.pow_pos (by decide)
      rw [Nat.mul_comm 2 (2 ^ l), Nat.mul_mod_mul_left]
      rcases Nat.mod_two_eq_zero_or_one q with hq | hq
      · rw [hq, Nat.mul_zero, if_pos rfl]
        obtain ⟨r, rfl⟩ : ∃ r, q = 2 * r := ⟨q / 2, by omega⟩
        have : Cg (u ^ (2 * r)) 1 := by
          rw [Nat.pow_mul, show u ^ 2 = u * u from by grind]
          have := hm2.pow r
          rwa [Nat.one_pow] at this
        refine ((this.add (Cg.refl 1)).mul (Cg.refl _)).trans (Cg.of_eq (by omega))
      · rw [hq, Nat.mul_one, if_neg (by omega)]
        obtain ⟨r, rfl⟩ : ∃ r, q = 2 * r + 1 := ⟨q / 2, by omega⟩
        have : Cg (u ^ (2 * r + 1)) u := by
          rw [Nat.pow_succ, Nat.pow_mul, show u ^ 2 = u * u from by grind]
          have := (hm2.pow r).mul (Cg.refl u)
          rwa [Nat.one_pow, Nat.one_mul] at this
        refine ((this.add (Cg.refl 1)).mul (Cg.refl _)).trans ?_
        refine (hn.mul (Cg.refl _)).trans (Cg.of_eq (Nat.zero_mul _))
    · rw [if_neg hm, if_neg (fun h => hm (by
        have : 2 ^ l ∣ m := Nat.dvd_trans ⟨2, by omega⟩ (Nat.dvd_of_mod_eq_zero h)
        exact Nat.mod_eq_zero_of_dvd this)), Nat.mul_zero]
      exact Cg.refl _
/-- What is transformed twice. -/
theorem back {w : Nat → Nat} (h0 : Cg (w 0) 1) {L : Nat} (hsq : ∀ l, l < L → Cg (w (l + 1) * w (l + 1)) (w l)) (hneg : ∀ l, l < L → Cg (w (l + 1) ^ 2 ^ l + 1) 0) {l : Nat} (hl : l ≤ L)
    {r c : Nat → Nat} (hc : ∀ k, k < 2 ^ l → Cg (c k) (evN (2 ^ l) r (w l ^ k))) {i : Nat} (hi : i < 2 ^ l) :
    Cg (evN (2 ^ l) c (w l ^ ((2 ^ l - i) % 2 ^ l))) (2 ^ l * r i) := by
  have hpos : 0 < 2 ^ l := Nat.pow_pos (by decide)
  have e1 : Cg (evN (2 ^ l) c (w l ^ ((2 ^ l - i) % 2 ^ l))) (sumN (2 ^ l) (fun k => sumN (2 ^ l) (fun s => r s * (1 * (w l ^ (s + (2 ^ l - i) % 2 ^ l)) ^ k)))) := by
    refine sumN_cg _ fun k hk => ?_
    refine ((hc k hk).mul (Cg.refl _)).trans (Cg.of_eq ?_)
    unfold evN
    rw [Nat.mul_comm, ← sumN_mul]
    refine sumN_congr _ fun s _ => ?_
    rw [← Nat.pow_mul, ← Nat.pow_mul, ← Nat.pow_mul, Nat.one_mul, Nat.add_mul, Nat.pow_add, Nat.mul_comm k s]
    grind
  refine e1.trans ?_
  rw [sumN_swap]
  have e2 : Cg (sumN (2 ^ l) (fun s => sumN (2 ^ l) (fun k => r s * (1 * (w l ^ (s + (2 ^ l - i) % 2 ^ l)) ^ k)))) (sumN (2 ^ l) (fun s => if s = i then 2 ^ l * r s else 0)) := by
    refine sumN_cg _ fun s hs => ?_
    rw [sumN_mul]
    refine ((Cg.refl (r s)).mul (orth h0 L hsq hneg l hl (s + (2 ^ l - i) % 2 ^ l))).trans (Cg.of_eq ?_)
    by_cases e : s = i
    · subst e
      rw [if_pos rfl, if_pos ?_]
      · exact Nat.mul_comm _ _
      · rw [Nat.add_mod_mod, show s + (2 ^ l - s) = 2 ^ l by omega, Nat.mod_self]
    · rw [if_neg e, if_neg ?_, Nat.mul_zero]
      rw [Nat.add_mod_mod]
      rcases Nat.lt_or_gt_of_ne e with h | h
      · rw [Nat.mod_eq_of_lt (by omega)]; omega
      · rw [show s + (2 ^ l - i) = (s - i) + 2 ^ l by omega, Nat.add_mod_right, Nat.mod_eq_of_lt (by omega)]; omega
  refine e2.trans (Cg.of_eq ?_)
  rw [sumN_one (j := i) (fun k hk => if_neg hk) _ hi, if_pos rfl]
/-! ### Products -/
/-- The coefficient at e of the first n terms' product with y. -/
def cf (x y : Nat → Nat) (n e : Nat) : Nat := sumN n (fun i => if i ≤ e then x i * y (e - i) else 0)
theorem evN_cf (x y : Nat → Nat) {m : Nat} (hy : ∀ k, m ≤ k → y k = 0) (z : Nat) : ∀ n M, n + m ≤ M + 1 → (1 ≤ m) → evN M (cf x y n) z = evN n x z * evN m y z
  | 0, M, _, _ => by
    show sumN M (fun s => 0 * z ^ s) = 0 * _
    rw [Nat.zero_mul, sumN_congr (g := fun _ => 0) M (fun k _ => Nat.zero_mul _), sumN_zero]
  | n + 1, M, hM, h1 => by
    have ih := evN_cf x y hy z n M (by omega) h1
    have e : evN M (cf x y (n + 1)) z = evN M (cf x y n) z + sumN M (fun s => (if n ≤ s then x n * y (s - n) else 0) * z ^ s) := by
      unfold evN
      rw [← sumN_add]
      refine sumN_congr M fun s _ => ?_
      show (cf x y n s + (if n ≤ s then x n * y (s - n) else 0)) * z ^ s = _
      rw [Nat.add_mul]
    have e2 : sumN M (fun s => (if n ≤ s then x n * y (s - n) else 0) * z ^ s) = x n * z ^ n * evN m y z := by
      have hs : ∀ (n : Nat) (g : Nat → Nat) (K : Nat), sumN (n + K) (fun s => if n ≤ s then g (s - n) else 0) = sumN K g := fun n g K => by
        induction K with
        | zero =>
          show sumN (n + 0) _ = 0
          rw [Nat.add_zero, sumN_congr (g := fun _ => 0) n (fun k hk => if_neg (by omega)), sumN_zero]
        | succ K ihK =>
          show sumN (n + K) _ + (if n ≤ n + K then g (n + K - n) else 0) = sumN K g + g K
          rw [ihK, if_pos (by omega), show n + K - n = K by omega]
      obtain ⟨K, rfl⟩ : ∃ K, M = n + K := ⟨M - n, by omega⟩
      have := hs n (fun s => x n * z ^ n * (y s * z ^ s)) K
      rw [sumN_congr (f := fun s => (if n ≤ s then x n * y (s - n) else 0) * z ^ s) (g := fun s => if n ≤ s then x n * z ^ n * (y (s - n) * z ^ (s - n)) else 0) (n + K) ?_, this, sumN_mul]
      · congr 1
        show sumN K (fun s => y s * z ^ s) = sumN m (fun s => y s * z ^ s)
        exact evN_more z hy (by omega)
      · intro s _
        by_cases h : n ≤ s
        · rw [if_pos h, if_pos h]
          have : z ^ s = z ^ n * z ^ (s - n) := by rw [← Nat.pow_add]; congr 1; omega
          rw [this]; grind
        · rw [if_neg h, if_neg h, Nat.zero_mul]
    rw [e, ih, e2]
    show _ = (sumN n (fun s => x s * z ^ s) + x n * z ^ n) * _
    rw [Nat.add_mul]; rfl
/-- A square's coefficient: each pair counts twice. -/
theorem cf_sqr (x : Nat → Nat) {n : Nat} (hx : ∀ k, n ≤ k → x k = 0) (e : Nat) :
    cf x x n e = (if e % 2 = 0 then x (e / 2) * x (e / 2) else 0) + sumN n (fun i => if i < e - i then 2 * (x i * x (e - i)) else 0) := by
  have h1 : cf x x n e = sumN (e + 1) (fun i => x i * x (e - i)) := by
    unfold cf
    rw [sumN_to (n := n) (m := e + 1) (f := fun i => if i ≤ e then x i * x (e - i) else 0) (fun k hk => by rw [hx k hk, Nat.zero_mul]; exact ite_self _) (fun k hk => if_neg (by omega))]
    exact sumN_congr _ fun k hk => if_pos (by omega)
  have h2 : sumN n (fun i => if i < e - i then 2 * (x i * x (e - i)) else 0) = sumN (e + 1) (fun i => if i < e - i then 2 * (x i * x (e - i)) else 0) :=
    sumN_to (fun k hk => by rw [hx k hk, Nat.zero_mul]; exact ite_self _) (fun k hk => if_neg (by omega))
  have h3 : sumN (e + 1) (fun i => x i * x (e - i)) = sumN (e + 1) (fun i => if i < e - i then x i * x (e - i) else 0) + sumN (e + 1) (fun i => if i = e - i then x i * x (e - i) else 0) + sumN (e + 1) (fun i => if e - i < i then x i * x (e - i) else 0) := by
    rw [← sumN_add, ← sumN_add]
    refine sumN_congr _ fun i _ => ?_
    rcases Nat.lt_trichotomy i (e - i) with h | h | h
    · rw [if_pos h, if_neg (by omega), if_neg (by omega)]; omega
    · rw [if_neg (by omega), if_pos h, if_neg (by omega)]; omega
    · rw [if_neg (by omega), if_neg (by omega), if_pos h]; omega
  have h4 : sumN (e + 1) (fun i => if e - i < i then x i * x (e - i) else 0) = sumN (e + 1) (fun i => if i < e - i then x i * x (e - i) else 0) := by
    rw [sumN_flip]
    refine sumN_congr _ fun i hi => ?_
    rw [show e + 1 - 1 - i = e - i by omega, show e - (e - i) = i by omega]
    split
    · exact Nat.mul_comm _ _
    · rfl
  have h5 : sumN (e + 1) (fun i => if i = e - i then x i * x (e - i) else 0) = if e % 2 = 0 then x (e / 2) * x (e / 2) else 0 := by
    by_cases he : e % 2 = 0
    · rw [if_pos he, sumN_one (j := e / 2) (fun k hk => if_neg (by omega)) _ (by omega), if_pos (by omega), show e - e / 2 = e / 2 by omega]
    · rw [if_neg he, sumN_congr (g := fun _ => 0) _ (fun k _ => if_neg (by omega)), sumN_zero]
  have h6 : sumN (e + 1) (fun i => if i < e - i then 2 * (x i * x (e - i)) else 0) = 2 * sumN (e + 1) (fun i => if i < e - i then x i * x (e - i) else 0) := by
    rw [← sumN_mul]
    exact sumN_congr _ fun i _ => by split <;> omega
  rw [h1, h3, h4, h5, h2, h6]; omega
end Go.Proofs.YtgdfdkpkhjbibaaDoor
