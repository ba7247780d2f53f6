/-
  Plain mathematics: grp, pr, primes.
-/
import Derived.Lib.Mul64
namespace Num

/-- A list without repetition whose members lie in another list no longer than it is a rearrangement of that list. -/
theorem perm_of_subset {α : Type} [DecidableEq α] : ∀ (l₁ l₂ : List α), l₁.Nodup → (∀ x, x ∈ l₁ → x ∈ l₂) → l₂.length ≤ l₁.length → l₁.Perm l₂
  | [], l₂, _, _, h => by
    have : l₂ = [] := List.eq_nil_of_length_eq_zero (by simpa using h)
    rw [this]
  | a :: t, l₂, nd, hs, h => by
    have ha : a ∈ l₂ := hs a (by simp)
    have hp : l₂.Perm (a :: l₂.erase a) := List.perm_cons_erase ha
    rw [List.nodup_cons] at nd
    have hlen : (l₂.erase a).length = l₂.length - 1 := List.length_erase_of_mem ha
    have hpos : 0 < l₂.length := List.length_pos_of_mem ha
    have ht : t.Perm (l₂.erase a) := perm_of_subset t (l₂.erase a) nd.2 (by
      intro x hx
      have hne : x ≠ a := fun e => nd.1 (e ▸ hx)
      exact (List.mem_erase_of_ne hne).2 (hs x (by simp [hx]))) (by
      rw [hlen]; simp at h; omega)
    exact (ht.cons a).trans hp.symm

theorem length_le_of_subset {α : Type} [DecidableEq α] : ∀ (l₁ l₂ : List α), l₁.Nodup → (∀ x, x ∈ l₁ → x ∈ l₂) → l₁.length ≤ l₂.length
  | [], _, _, _ => by simp
  | a :: t, l₂, nd, hs => by
    have ha : a ∈ l₂ := hs a (by simp)
    rw [List.nodup_cons] at nd
    have hlen : (l₂.erase a).length = l₂.length - 1 := List.length_erase_of_mem ha
    have hpos : 0 < l₂.length := List.length_pos_of_mem ha
    have := length_le_of_subset t (l₂.erase a) nd.2 (by
      intro x hx
      have hne : x ≠ a := fun e => nd.1 (e ▸ hx)
      exact (List.mem_erase_of_ne hne).2 (hs x (by simp [hx])))
    simp; omega

section group
variable {α : Type} (op : α → α → α) (e : α)

/-- A power in a group, by its operation. -/
def npow (g : α) : Nat → α
  | 0 => e
  | n + 1 => op g (npow g n)

/-- The product of a list. -/
def prodL : List α → α
  | [] => e
  | a :: t => op a (prodL t)

/-- The laws of a commutative group on the members of a list. -/
structure Grp (M : α → Prop) : Prop where
  one : M e
  cl : ∀ a b, M a → M b → M (op a b)
  assoc : ∀ a b c, M a → M b → M c → op (op a b) c = op a (op b c)
  comm : ∀ a b, M a → M b → op a b = op b a
  id : ∀ a, M a → op e a = a
  inv : ∀ a, M a → ∃ b, M b ∧ op b a = e

variable {op e} {M : α → Prop} (H : Grp op e M)
include H

theorem npow_mem (g : α) (hg : M g) : ∀ n, M (npow op e g n)
  | 0 => H.one
  | n + 1 => H.cl _ _ hg (npow_mem g hg n)

theorem npow_add (g : α) (hg : M g) (m : Nat) : ∀ n, npow op e g (n + m) = op (npow op e g n) (npow op e g m)
  | 0 => by rw [Nat.zero_add]; exact (H.id _ (npow_mem H g hg m)).symm
  | n + 1 => by
    rw [show n + 1 + m = (n + m) + 1 from by omega]
    show op g (npow op e g (n + m)) = op (op g (npow op e g n)) _
    rw [npow_add g hg m n, H.assoc _ _ _ hg (npow_mem H g hg n) (npow_mem H g hg m)]

theorem npow_one (n : Nat) : npow op e e n = e := by
  induction n with
  | zero => rfl
  | succ n ih => show op e _ = e; rw [ih, H.id _ H.one]

theorem npow_mul (g : α) (hg : M g) (m : Nat) : ∀ n, npow op e g (m * n) = npow op e (npow op e g m) n
  | 0 => rfl
  | n + 1 => by
    rw [Nat.mul_succ, Nat.add_comm, npow_add H g hg, npow_mul g hg m n]; rfl

theorem npow_mod (g : α) (hg : M g) (a b : Nat) (hb : npow op e g b = e) : npow op e g (a % b) = npow op e g a := by
  have h : a = b * (a / b) + a % b := (Nat.div_add_mod a b).symm
  have h2 : npow op e g a = npow op e g (b * (a / b) + a % b) := by rw [← h]
  rw [h2, npow_add H g hg, npow_mul H g hg, hb, npow_one H, H.id _ (npow_mem H g hg _)]

/-- Two exponents that lead to one: so does their greatest common divisor. -/
theorem npow_gcd (g : α) (hg : M g) (a b : Nat) : npow op e g a = e → npow op e g b = e → npow op e g (Nat.gcd a b) = e := by
  induction a, b using Nat.gcd.induction with
  | H0 n => intro _ h; simpa using h
  | H1 m n _ ih =>
    intro ha hb
    rw [Nat.gcd_rec]
    exact ih (by rw [npow_mod H g hg n m ha]; exact hb) ha

theorem prodL_mem : ∀ (l : List α), (∀ x, x ∈ l → M x) → M (prodL op e l)
  | [], _ => H.one
  | a :: t, h => H.cl _ _ (h a (by simp)) (prodL_mem t fun x hx => h x (by simp [hx]))

theorem prodL_perm {l₁ l₂ : List α} (hp : l₁.Perm l₂) : (∀ x, x ∈ l₁ → M x) → prodL op e l₁ = prodL op e l₂ := by
  induction hp with
  | nil => intro _; rfl
  | cons a _ ih => intro h; show op a _ = op a _; rw [ih fun x hx => h x (by simp [hx])]
  | swap a b l =>
    intro h
    have ha : M a := h a (by simp)
    have hb : M b := h b (by simp)
    have hl : M (prodL op e l) := prodL_mem H l fun x hx => h x (by simp [hx])
    show op b (op a _) = op a (op b _)
    rw [← H.assoc _ _ _ hb ha hl, H.comm _ _ hb ha, H.assoc _ _ _ ha hb hl]
  | trans h1 _ ih1 ih2 => intro h; rw [ih1 h]; exact ih2 fun x hx => h x (h1.mem_iff.2 hx)

theorem prodL_map (g : α) (hg : M g) : ∀ (l : List α), (∀ x, x ∈ l → M x) → prodL op e (l.map (op g)) = op (npow op e g l.length) (prodL op e l)
  | [], _ => (H.id _ H.one).symm
  | a :: t, h => by
    have ha : M a := h a (by simp)
    have ht : ∀ x, x ∈ t → M x := fun x hx => h x (by simp [hx])
    have h1 := npow_mem H g hg t.length
    have h2 := prodL_mem H t ht
    show op (op g a) (prodL op e (t.map (op g))) = op (op g (npow op e g t.length)) (op a (prodL op e t))
    rw [prodL_map g hg t ht, H.assoc _ _ _ hg ha (H.cl _ _ h1 h2), H.assoc _ _ _ hg h1 (H.cl _ _ ha h2),
      ← H.assoc _ _ _ ha h1 h2, H.comm _ _ ha h1, H.assoc _ _ _ h1 ha h2]

theorem cancel (a b c : α) (ha : M a) (hb : M b) (hc : M c) (h : op a b = op a c) : b = c := by
  obtain ⟨i, hi, e1⟩ := H.inv a ha
  have : op i (op a b) = op i (op a c) := by rw [h]
  rwa [← H.assoc _ _ _ hi ha hb, ← H.assoc _ _ _ hi ha hc, e1, H.id _ hb, H.id _ hc] at this

/-- In a finite commutative group each member to the power of their number is one. -/
theorem npow_card [DecidableEq α] (G : List α) (nd : G.Nodup) (hG : ∀ x, x ∈ G ↔ M x) (g : α) (hg : M g) : npow op e g G.length = e := by
  have hM : ∀ x, x ∈ G → M x := fun x hx => (hG x).1 hx
  have hnd : (G.map (op g)).Nodup := by
    refine List.Pairwise.map _ ?_ (List.Pairwise.and_mem.1 nd)
    intro a b hab heq
    exact hab.2.2 (cancel H g a b hg (hM _ hab.1) (hM _ hab.2.1) heq)
  have hp : (G.map (op g)).Perm G := perm_of_subset _ _ hnd (by
    intro x hx
    obtain ⟨y, hy, rfl⟩ := List.mem_map.1 hx
    exact (hG _).2 (H.cl _ _ hg (hM y hy))) (by simp)
  have h1 := prodL_perm H hp (by
    intro x hx
    obtain ⟨y, hy, rfl⟩ := List.mem_map.1 hx
    exact H.cl _ _ hg (hM y hy))
  rw [prodL_map H g hg G hM] at h1
  have hq := prodL_mem H G hM
  have hn := npow_mem H g hg G.length
  have h2 : op (prodL op e G) (npow op e g G.length) = op (prodL op e G) e := by
    rw [H.comm _ _ hq hn, h1, H.comm _ _ hq H.one, H.id _ hq]
  exact cancel H _ _ _ hq hn H.one h2
end group
end Num

namespace Num

/-- A prime number. -/
def Pr (p : Nat) : Prop := 1 < p ∧ ∀ d, d ∣ p → d = 1 ∨ d = p

theorem Pr.two_le {p : Nat} (h : Pr p) : 2 ≤ p := h.1

theorem Pr.coprime {p a : Nat} (h : Pr p) (ha : ¬ p ∣ a) : Nat.Coprime p a := by
  have h1 : Nat.gcd p a ∣ p := Nat.gcd_dvd_left p a
  rcases h.2 _ h1 with e | e
  · exact e
  · exact absurd (e ▸ Nat.gcd_dvd_right p a) ha

theorem Pr.euclid {p a b : Nat} (h : Pr p) (hd : p ∣ a * b) : p ∣ a ∨ p ∣ b := by
  by_cases ha : p ∣ a
  · exact Or.inl ha
  · exact Or.inr ((h.coprime ha).dvd_of_dvd_mul_left hd)

theorem Pr.dvd_pow {p a : Nat} (h : Pr p) : ∀ n, p ∣ a ^ n → p ∣ a
  | 0, hd => by
    rw [Nat.pow_zero] at hd
    have h1 := Nat.le_of_dvd (by decide) hd
    have h2 := h.1
    omega
  | n + 1, hd => by
    rw [Nat.pow_succ] at hd
    rcases h.euclid hd with h1 | h1
    · exact h.dvd_pow n h1
    · exact h1

theorem exists_prime : ∀ n : Nat, 1 < n → ∃ r, Pr r ∧ r ∣ n := by
  intro n
  induction n using Nat.strongRecOn with
  | ind n ih =>
    intro hn
    by_cases hp : Pr n
    · exact ⟨n, hp, Nat.dvd_refl n⟩
    · have : ∃ d, d ∣ n ∧ d ≠ 1 ∧ d ≠ n := by
        refine Classical.byContradiction fun hc => hp ⟨hn, fun d hd => ?_⟩
        refine Classical.byContradiction fun hn2 => hc ⟨d, hd, fun e => hn2 (Or.inl e), fun e => hn2 (Or.inr e)⟩
      obtain ⟨d, hd, h1, h2⟩ := this
      have hle : d ≤ n := Nat.le_of_dvd (by omega) hd
      have h0 : d ≠ 0 := by
        intro e; subst e
        have := Nat.eq_zero_of_zero_dvd hd; omega
      obtain ⟨r, hr, hrd⟩ := ih d (by omega) (by omega)
      exact ⟨r, hr, Nat.dvd_trans hrd hd⟩

/-- A number no prime divisor of which has a square that is at most the number is prime. -/
theorem prime_of_large {n : Nat} (hn : 1 < n) (h : ∀ r, Pr r → r ∣ n → n < r * r) : Pr n := by
  refine ⟨hn, fun d hd => ?_⟩
  refine Classical.byContradiction fun hc => ?_
  obtain ⟨e, he⟩ := hd
  have hd0 : d ≠ 0 := by intro x; subst x; simp at he; omega
  have he0 : e ≠ 0 := by intro x; subst x; simp at he; omega
  have hd1 : d ≠ 1 := fun x => hc (Or.inl x)
  have he1 : e ≠ 1 := by intro x; subst x; exact hc (Or.inr (by omega))
  obtain ⟨r, hr, hrd⟩ := exists_prime d (by omega)
  obtain ⟨s, hs, hse⟩ := exists_prime e (by omega)
  have h1 := h r hr (by rw [he]; exact Nat.dvd_mul_right_of_dvd hrd e)
  have h2 := h s hs (by rw [he]; exact Nat.dvd_mul_left_of_dvd hse d)
  have h3 : r ≤ d := Nat.le_of_dvd (by omega) hrd
  have h4 : s ≤ e := Nat.le_of_dvd (by omega) hse
  have h5 : r * s ≤ n := by rw [he]; exact Nat.mul_le_mul h3 h4
  rcases Nat.le_total r s with h6 | h6
  · have := Nat.mul_le_mul_left r h6; omega
  · have := Nat.mul_le_mul_right s h6; omega

/-- The numbers below p, but 0. -/
def unitsOf (p : Nat) : List Nat := List.range' 1 (p - 1)

theorem mem_unitsOf {p x : Nat} : x ∈ unitsOf p ↔ 0 < x ∧ x < p := by
  simp [unitsOf, List.mem_range'_1]; omega

theorem mul_mod_pos {p a b : Nat} (h : Pr p) (ha : 0 < a ∧ a < p) (hb : 0 < b ∧ b < p) : 0 < a * b % p ∧ a * b % p < p := by
  refine ⟨Nat.pos_of_ne_zero fun e => ?_, Nat.mod_lt _ (by omega)⟩
  rcases h.euclid (Nat.dvd_of_mod_eq_zero e) with h1 | h1
  · have := Nat.le_of_dvd ha.1 h1; omega
  · have := Nat.le_of_dvd hb.1 h1; omega

theorem mul_mod_inj {p a b c : Nat} (h : Pr p) (ha : 0 < a ∧ a < p) (hb : b < p) (hc : c < p) (e : a * b % p = a * c % p) : b = c := by
  have key : ∀ b c : Nat, b ≤ c → c < p → a * b % p = a * c % p → b = c := by
    intro b c hbc hc e
    have h1 : p ∣ a * c - a * b := by
      have e1 := Nat.div_add_mod (a * b) p
      have e2 := Nat.div_add_mod (a * c) p
      refine ⟨a * c / p - a * b / p, ?_⟩
      rw [Nat.mul_sub]; omega
    rw [← Nat.mul_sub] at h1
    rcases h.euclid h1 with h2 | h2
    · have := Nat.le_of_dvd ha.1 h2; omega
    · by_cases h0 : c - b = 0
      · omega
      · have := Nat.le_of_dvd (by omega) h2; omega
  rcases Nat.le_total b c with h1 | h1
  · exact key b c h1 hc e
  · exact (key c b h1 hb e.symm).symm

theorem units_grp {p : Nat} (h : Pr p) : Grp (fun a b : Nat => a * b % p) 1 (fun a => 0 < a ∧ a < p) where
  one := ⟨by decide, h.1⟩
  cl a b ha hb := mul_mod_pos h ha hb
  assoc a b c _ _ _ := by
    show (a * b % p) * c % p = a * (b * c % p) % p
    rw [Nat.mod_mul_mod, Nat.mul_mod_mod, Nat.mul_assoc]
  comm a b _ _ := by show a * b % p = b * a % p; rw [Nat.mul_comm]
  id a ha := by show 1 * a % p = a; rw [Nat.one_mul, Nat.mod_eq_of_lt ha.2]
  inv a ha := by
    have hp : ((unitsOf p).map (fun b => a * b % p)).Perm (unitsOf p) := perm_of_subset _ _ (by
        refine List.Pairwise.map _ ?_ (List.Pairwise.and_mem.1 (show (unitsOf p).Nodup from List.nodup_range'))
        intro x y hxy heq
        exact hxy.2.2 (mul_mod_inj h ha (mem_unitsOf.1 hxy.1).2 (mem_unitsOf.1 hxy.2.1).2 heq)) (by
        intro x hx
        obtain ⟨y, hy, rfl⟩ := List.mem_map.1 hx
        exact mem_unitsOf.2 (mul_mod_pos h ha (mem_unitsOf.1 hy))) (by simp)
    have h1 : 1 ∈ (unitsOf p).map (fun b => a * b % p) := hp.mem_iff.2 (mem_unitsOf.2 ⟨by decide, h.1⟩)
    obtain ⟨b, hb, e⟩ := List.mem_map.1 h1
    exact ⟨b, mem_unitsOf.1 hb, by show b * a % p = 1; rw [Nat.mul_comm]; exact e⟩

theorem npow_units {p : Nat} (h : 1 < p) (a : Nat) : ∀ n, npow (fun a b : Nat => a * b % p) 1 a n = a ^ n % p
  | 0 => by show 1 = a ^ 0 % p; rw [Nat.pow_zero, Nat.mod_eq_of_lt h]
  | n + 1 => by
    show a * npow _ 1 a n % p = _
    rw [npow_units h a n, Nat.mul_mod_mod, Nat.pow_succ, Nat.mul_comm]

/-- Fermat's little theorem. -/
theorem fermat {p : Nat} (h : Pr p) {a : Nat} (ha : a % p ≠ 0) : a ^ (p - 1) % p = 1 := by
  have hm : 0 < a % p ∧ a % p < p := ⟨Nat.pos_of_ne_zero ha, Nat.mod_lt _ (by have := h.1; omega)⟩
  have h1 := npow_card (units_grp h) (unitsOf p) (show (unitsOf p).Nodup from List.nodup_range') (fun x => mem_unitsOf) (a % p) hm
  rw [npow_units h.1, ← Nat.pow_mod] at h1
  rwa [show (unitsOf p).length = p - 1 from by simp [unitsOf]] at h1

/-- Two exponents that lead to one modulo a prime: so does their greatest common divisor. -/
theorem pow_gcd {p : Nat} (h : Pr p) {a m n : Nat} (ha : a % p ≠ 0) (hm : a ^ m % p = 1) (hn : a ^ n % p = 1) : a ^ (Nat.gcd m n) % p = 1 := by
  have hM : 0 < a % p ∧ a % p < p := ⟨Nat.pos_of_ne_zero ha, Nat.mod_lt _ (by have := h.1; omega)⟩
  have := npow_gcd (units_grp h) (a % p) hM m n (by rw [npow_units h.1, ← Nat.pow_mod]; exact hm) (by rw [npow_units h.1, ← Nat.pow_mod]; exact hn)
  rwa [npow_units h.1, ← Nat.pow_mod] at this

theorem pow_mod_of_dvd {a m n p : Nat} (hp : 1 < p) (hd : m ∣ n) (h : a ^ m % p = 1) : a ^ n % p = 1 := by
  obtain ⟨k, rfl⟩ := hd
  rw [Nat.pow_mul, Nat.pow_mod, h, Nat.one_pow, Nat.mod_eq_of_lt hp]

/-- Pocklington: what a prime's power in n - 1 says of each prime divisor of n. -/
theorem pock {n q e a : Nat} (hn : 1 < n) (hq : Pr q) (hd : q ^ e ∣ n - 1) (he : 0 < e) (h1 : a ^ (n - 1) % n = 1)
    (h2 : Nat.gcd (a ^ ((n - 1) / q) % n + (n - 1)) n = 1) {r : Nat} (hr : Pr r) (hrn : r ∣ n) : q ^ e ∣ r - 1 := by
  have hqd : q ∣ n - 1 := Nat.dvd_trans (Nat.dvd_trans (by rw [Nat.pow_one]; exact Nat.dvd_refl q) (Nat.pow_dvd_pow q he)) hd
  have hmr : a ^ (n - 1) % r = 1 := by
    have := Nat.mod_mod_of_dvd (a ^ (n - 1)) hrn
    rw [h1, Nat.mod_eq_of_lt hr.1] at this; exact this.symm
  have har : a % r ≠ 0 := by
    intro hz
    rw [Nat.pow_mod, hz, Nat.zero_pow (by omega)] at hmr
    simp at hmr
  have hg := pow_gcd hr har hmr (fermat hr har)
  have hgd : Nat.gcd (n - 1) (r - 1) ∣ n - 1 := Nat.gcd_dvd_left _ _
  obtain ⟨k, hk⟩ := hgd
  have hqk : ¬ q ∣ k := by
    rintro ⟨k', hk'⟩
    have hq0 : 0 < q := by have := hq.1; omega
    have hdiv : (n - 1) / q = Nat.gcd (n - 1) (r - 1) * k' := by
      refine Nat.div_eq_of_eq_mul_right hq0 ?_
      have e1 : Nat.gcd (n - 1) (r - 1) * k = Nat.gcd (n - 1) (r - 1) * (q * k') := by rw [hk']
      rw [← hk, Nat.mul_left_comm] at e1
      exact e1
    have hone : a ^ ((n - 1) / q) % r = 1 := pow_mod_of_dvd hr.1 ⟨k', hdiv⟩ hg
    have hrg : r ∣ a ^ ((n - 1) / q) % n + (n - 1) := by
      refine Nat.dvd_of_mod_eq_zero ?_
      have e1 : (a ^ ((n - 1) / q) % n) % r = 1 := by rw [Nat.mod_mod_of_dvd _ hrn]; exact hone
      have e2 : (1 + (n - 1)) % r = 0 := by rw [show 1 + (n - 1) = n from by omega]; exact Nat.mod_eq_zero_of_dvd hrn
      rw [Nat.add_mod, e1, ← e2]
      conv => rhs; rw [Nat.add_mod, Nat.mod_eq_of_lt hr.1]
    have := Nat.dvd_gcd hrg hrn
    rw [h2] at this
    have := Nat.le_of_dvd (by decide) this
    have := hr.1; omega
  have hc : Nat.Coprime (q ^ e) k := Nat.Coprime.pow_left e (hq.coprime hqk)
  have : q ^ e ∣ Nat.gcd (n - 1) (r - 1) := by
    refine hc.dvd_of_dvd_mul_right ?_
    rw [← hk]; exact hd
  exact Nat.dvd_trans this (Nat.gcd_dvd_right _ _)

theorem pock_prime {n F : Nat} (hn : 1 < n) (hF : n ≤ F * F) (h : ∀ r, Pr r → r ∣ n → F ∣ r - 1) : Pr n := by
  refine prime_of_large hn fun r hr hrn => ?_
  have h1 := Nat.le_of_dvd (by have := hr.1; omega) (h r hr hrn)
  have h2 : F + 1 ≤ r := by have := hr.1; omega
  have h3 := Nat.mul_le_mul h2 h2
  have h4 : (F + 1) * (F + 1) = F * F + 2 * F + 1 := by grind
  omega

/-- A power modulo a number, by squaring. -/
def powM (p : Nat) : Nat → Nat → Nat → Nat
  | 0, _, _ => 1 % p
  | f + 1, a, e => if e % 2 = 1 then powM p f (a * a % p) (e / 2) * a % p else powM p f (a * a % p) (e / 2)

theorem powM_eq (p : Nat) : ∀ f a e, e < 2 ^ f → powM p f a e = a ^ e % p
  | 0, a, e, h => by
    have : e = 0 := by simp at h; omega
    subst this; rfl
  | f + 1, a, e, h => by
    have ih := powM_eq p f (a * a % p) (e / 2) (by rw [Nat.pow_succ] at h; omega)
    have e1 : (a * a % p) ^ (e / 2) % p = a ^ (2 * (e / 2)) % p := by
      rw [← Nat.pow_mod, Nat.pow_mul, Nat.pow_two]
    unfold powM
    rw [ih, e1]
    split
    · next h1 =>
      rw [Nat.mod_mul_mod, ← Nat.pow_succ]
      congr 2; omega
    · next h1 => congr 2; omega

/-- Trial division: no divisor from k on, f numbers long. -/
def trial (n : Nat) : Nat → Nat → Bool
  | 0, _ => true
  | f + 1, k => n % k != 0 && trial n f (k + 1)

theorem trial_spec (n : Nat) : ∀ f k, trial n f k = true → ∀ j, k ≤ j → j < k + f → n % j ≠ 0
  | 0, k, _, j, h1, h2 => by omega
  | f + 1, k, h, j, h1, h2 => by
    simp only [trial, Bool.and_eq_true, bne_iff_ne] at h
    by_cases e : j = k
    · rw [e]; exact h.1
    · exact trial_spec n f (k + 1) h.2 j (by omega) (by omega)

theorem prime_trial {n : Nat} (f : Nat) (hn : 1 < n) (h : trial n f 2 = true) (hf : n < (f + 2) * (f + 2)) : Pr n := by
  refine prime_of_large hn fun r hr hrn => ?_
  refine Classical.byContradiction fun hc => ?_
  have h1 : r < f + 2 := by
    refine Classical.byContradiction fun h2 => ?_
    have := Nat.mul_le_mul (show f + 2 ≤ r from by omega) (show f + 2 ≤ r from by omega)
    omega
  exact trial_spec n f 2 h r hr.1 (by omega) (Nat.mod_eq_zero_of_dvd hrn)
end Num
namespace Num
/-- The same, its powers reckoned by squaring. -/
theorem pockM {n q e a : Nat} (f : Nat) (hn : 1 < n) (hq : Pr q) (hd : (n - 1) % q ^ e = 0) (he : 0 < e) (hf : n - 1 < 2 ^ f) (h1 : powM n f a (n - 1) = 1)
    (h2 : Nat.gcd (powM n f a ((n - 1) / q) + (n - 1)) n = 1) {r : Nat} (hr : Pr r) (hrn : r ∣ n) : q ^ e ∣ r - 1 := by
  refine pock (a := a) hn hq (Nat.dvd_of_mod_eq_zero hd) he ?_ ?_ hr hrn
  · rw [← powM_eq n f a _ hf]; exact h1
  · rw [← powM_eq n f a _ (Nat.lt_of_le_of_lt (Nat.div_le_self _ _) hf)]; exact h2

theorem pock_one {n q e : Nat} (a f : Nat) (hq : Pr q) (h : 1 < n ∧ n ≤ q ^ e * q ^ e ∧ (n - 1) % q ^ e = 0 ∧ 0 < e ∧ n - 1 < 2 ^ f ∧ powM n f a (n - 1) = 1 ∧ Nat.gcd (powM n f a ((n - 1) / q) + (n - 1)) n = 1) : Pr n := by
  obtain ⟨h1, h2, h3, h4, h5, h6, h7⟩ := h
  exact pock_prime h1 h2 fun r hr hrn => pockM f h1 hq h3 h4 h5 h6 h7 hr hrn

theorem pock_two {n q e s d : Nat} (a b f : Nat) (hq : Pr q) (hs : Pr s)
    (h : 1 < n ∧ n ≤ (q ^ e * s ^ d) * (q ^ e * s ^ d) ∧ (n - 1) % q ^ e = 0 ∧ 0 < e ∧ n - 1 < 2 ^ f ∧ powM n f a (n - 1) = 1 ∧ Nat.gcd (powM n f a ((n - 1) / q) + (n - 1)) n = 1)
    (h' : (n - 1) % s ^ d = 0 ∧ 0 < d ∧ powM n f b (n - 1) = 1 ∧ Nat.gcd (powM n f b ((n - 1) / s) + (n - 1)) n = 1 ∧ Nat.gcd (q ^ e) (s ^ d) = 1) : Pr n := by
  obtain ⟨h1, h2, h3, h4, h5, h6, h7⟩ := h
  obtain ⟨g1, g2, g3, g4, g5⟩ := h'
  exact pock_prime h1 h2 fun r hr hrn => Nat.Coprime.mul_dvd_of_dvd_of_dvd g5 (pockM f h1 hq h3 h4 h5 h6 h7 hr hrn) (pockM f h1 hs g1 g2 h5 g3 g4 hr hrn)
end Num

namespace Num
theorem pr_2 : Pr 2 := prime_trial 0 (by decide) (by decide +kernel) (by decide)
theorem pr_18446744069414584321 : Pr 18446744069414584321 :=
  pock_one (q := 2) (e := 32) 7 64 pr_2 (by decide +kernel)
theorem pr_340282366920938462946865773367900766209 : Pr 340282366920938462946865773367900766209 :=
  pock_one (q := 2) (e := 66) 7 128 pr_2 (by decide +kernel)
theorem pr_991 : Pr 991 := prime_trial 30 (by decide) (by decide +kernel) (by decide)
theorem pr_103 : Pr 103 := prime_trial 9 (by decide) (by decide +kernel) (by decide)
theorem pr_8574133 : Pr 8574133 :=
  pock_two (q := 991) (e := 1) (s := 103) (d := 1) 2 2 24 pr_991 pr_103 (by decide +kernel) (by decide +kernel)
theorem pr_47 : Pr 47 := prime_trial 5 (by decide) (by decide +kernel) (by decide)
theorem pr_1919519569386763 : Pr 1919519569386763 :=
  pock_two (q := 8574133) (e := 1) (s := 47) (d := 2) 2 2 51 pr_8574133 pr_47 (by decide +kernel) (by decide +kernel)
theorem pr_419 : Pr 419 := prime_trial 19 (by decide) (by decide +kernel) (by decide)
theorem pr_97 : Pr 97 := prime_trial 8 (by decide) (by decide +kernel) (by decide)
theorem pr_569003 : Pr 569003 :=
  pock_two (q := 419) (e := 1) (s := 97) (d := 1) 2 2 20 pr_419 pr_97 (by decide +kernel) (by decide +kernel)
theorem pr_2773320623 : Pr 2773320623 :=
  pock_one (q := 569003) (e := 1) 2 32 pr_569003 (by decide +kernel)
theorem pr_72106336199 : Pr 72106336199 :=
  pock_one (q := 2773320623) (e := 1) 2 37 pr_2773320623 (by decide +kernel)
theorem pr_75445702479781427272750846543864801 : Pr 75445702479781427272750846543864801 :=
  pock_two (q := 1919519569386763) (e := 1) (s := 72106336199) (d := 1) 2 2 116 pr_1919519569386763 pr_72106336199 (by decide +kernel) (by decide +kernel)
theorem pr_1723 : Pr 1723 := prime_trial 40 (by decide) (by decide +kernel) (by decide)
theorem pr_430751 : Pr 430751 :=
  pock_one (q := 1723) (e := 1) 2 19 pr_1723 (by decide +kernel)
theorem pr_4153 : Pr 4153 := prime_trial 63 (by decide) (by decide +kernel) (by decide)
theorem pr_31757755568855353 : Pr 31757755568855353 :=
  pock_two (q := 430751) (e := 1) (s := 4153) (d := 1) 2 2 55 pr_430751 pr_4153 (by decide +kernel) (by decide +kernel)
theorem pr_74058212732561358302231226437062788676166966415465897661863160754340907 : Pr 74058212732561358302231226437062788676166966415465897661863160754340907 :=
  pock_two (q := 75445702479781427272750846543864801) (e := 1) (s := 31757755568855353) (d := 1) 2 2 236 pr_75445702479781427272750846543864801 pr_31757755568855353 (by decide +kernel) (by decide +kernel)
theorem pr_57896044618658097711785492504343953926634992332820282019728792003956564819949 : Pr 57896044618658097711785492504343953926634992332820282019728792003956564819949 :=
  pock_one (q := 74058212732561358302231226437062788676166966415465897661863160754340907) (e := 1) 2 255 pr_74058212732561358302231226437062788676166966415465897661863160754340907 (by decide +kernel)
theorem pr_2551 : Pr 2551 := prime_trial 49 (by decide) (by decide +kernel) (by decide)
theorem pr_1224481 : Pr 1224481 :=
  pock_one (q := 2551) (e := 1) 2 21 pr_2551 (by decide +kernel)
theorem pr_3797 : Pr 3797 := prime_trial 60 (by decide) (by decide +kernel) (by decide)
theorem pr_531581 : Pr 531581 :=
  pock_one (q := 3797) (e := 1) 2 20 pr_3797 (by decide +kernel)
theorem pr_1257559732178653 : Pr 1257559732178653 :=
  pock_two (q := 1224481) (e := 1) (s := 531581) (d := 1) 2 2 51 pr_1224481 pr_531581 (by decide +kernel) (by decide +kernel)
theorem pr_4434155615661930479 : Pr 4434155615661930479 :=
  pock_one (q := 1257559732178653) (e := 1) 2 62 pr_1257559732178653 (by decide +kernel)
theorem pr_172054593956031949258510691 : Pr 172054593956031949258510691 :=
  pock_one (q := 4434155615661930479) (e := 1) 2 88 pr_4434155615661930479 (by decide +kernel)
theorem pr_19757330305831588566944191468367130476339 : Pr 19757330305831588566944191468367130476339 :=
  pock_one (q := 172054593956031949258510691) (e := 1) 2 134 pr_172054593956031949258510691 (by decide +kernel)
theorem pr_276602624281642239937218680557139826668747 : Pr 276602624281642239937218680557139826668747 :=
  pock_one (q := 19757330305831588566944191468367130476339) (e := 1) 2 138 pr_19757330305831588566944191468367130476339 (by decide +kernel)
theorem pr_7237005577332262213973186563042994240857116359379907606001950938285454250989 : Pr 7237005577332262213973186563042994240857116359379907606001950938285454250989 :=
  pock_one (q := 276602624281642239937218680557139826668747) (e := 1) 2 253 pr_276602624281642239937218680557139826668747 (by decide +kernel)
theorem pr_307 : Pr 307 := prime_trial 16 (by decide) (by decide +kernel) (by decide)
theorem pr_28859 : Pr 28859 :=
  pock_one (q := 307) (e := 1) 2 15 pr_307 (by decide +kernel)
theorem pr_2281 : Pr 2281 := prime_trial 46 (by decide) (by decide +kernel) (by decide)
theorem pr_5171003929967 : Pr 5171003929967 :=
  pock_two (q := 28859) (e := 1) (s := 2281) (d := 1) 2 2 43 pr_28859 pr_2281 (by decide +kernel) (by decide +kernel)
theorem pr_22561162540501040539 : Pr 22561162540501040539 :=
  pock_one (q := 5171003929967) (e := 1) 2 65 pr_5171003929967 (by decide +kernel)
theorem pr_8053 : Pr 8053 := prime_trial 88 (by decide) (by decide +kernel) (by decide)
theorem pr_3911 : Pr 3911 := prime_trial 61 (by decide) (by decide +kernel) (by decide)
theorem pr_1013266244677 : Pr 1013266244677 :=
  pock_two (q := 8053) (e := 1) (s := 3911) (d := 1) 2 2 40 pr_8053 pr_3911 (by decide +kernel) (by decide +kernel)
theorem pr_203852586375664218368381551393371968928013 : Pr 203852586375664218368381551393371968928013 :=
  pock_two (q := 22561162540501040539) (e := 1) (s := 1013266244677) (d := 1) 2 2 138 pr_22561162540501040539 pr_1013266244677 (by decide +kernel) (by decide +kernel)
theorem pr_104719073621178708975837602950775180438320278101 : Pr 104719073621178708975837602950775180438320278101 :=
  pock_one (q := 203852586375664218368381551393371968928013) (e := 1) 2 157 pr_203852586375664218368381551393371968928013 (by decide +kernel)
theorem pr_27413359092552162435694767700453926735143482401279781 : Pr 27413359092552162435694767700453926735143482401279781 :=
  pock_one (q := 104719073621178708975837602950775180438320278101) (e := 1) 2 175 pr_104719073621178708975837602950775180438320278101 (by decide +kernel)
theorem pr_14474011154664524427946373126085988481603263447650325797860494125407373907997 : Pr 14474011154664524427946373126085988481603263447650325797860494125407373907997 :=
  pock_one (q := 27413359092552162435694767700453926735143482401279781) (e := 1) 2 253 pr_27413359092552162435694767700453926735143482401279781 (by decide +kernel)
end Num
