/-
  Plain mathematics.
-/
import Derived.Lib.Mul64
namespace Num

/-- A list without repetition whose members lie in another list no longer than it is a rearrangement of that list. -/
theorem perm_of_subset {α : Type} [DecidableEq α] : ∀ (l₁ l₂ : List α), l₁.Nodup → (∀ x, x ∈ l₁ → x ∈ l₂) → l₂.length ≤ l₁.length → l₁.Perm l₂
  | [], l₂, _, _, h => by
    have : l₂ = [] := List.eq_nil_of_length_eq_zero (by simpa using h)
    rw [this]
  | a :: t, l₂, nd, hs, h => by
    have ha : a ∈ l₂ := hs a (by simp)
    have hp : l₂.Perm (a :: l₂.erase a) := List.perm_cons_erase ha
    rw [List.nodup_cons] at nd
    have hlen : (l₂.erase a).length = l₂.length - 1 := List.length_erase_of_mem ha
    have hpos : 0 < l₂.length := List.length_pos_of_mem ha
    have ht : t.Perm (l₂.erase a) := perm_of_subset t (l₂.erase a) nd.2 (by
      intro x hx
      have hne : x ≠ a := fun e => nd.1 (e ▸ hx)
      exact (List.mem_erase_of_ne hne).2 (hs x (by simp [hx]))) (by
      rw [hlen]; simp at h; omega)
    exact (ht.cons a).trans hp.symm

theorem length_le_of_subset {α : Type} [DecidableEq α] : ∀ (l₁ l₂ : List α), l₁.Nodup → (∀ x, x ∈ l₁ → x ∈ l₂) → l₁.length ≤ l₂.length
  | [], _, _, _ => by simp
  | a :: t, l₂, nd, hs => by
    have ha : a ∈ l₂ := hs a (by simp)
    rw [List.nodup_cons] at nd
    have hlen : (l₂.erase a).length = l₂.length - 1 := List.length_erase_of_mem ha
    have hpos : 0 < l₂.length := List.length_pos_of_mem ha
    have := length_le_of_subset t (l₂.erase a) nd.2 (by
      intro x hx
      have hne : x ≠ a := fun e => nd.1 (e ▸ hx)
      exact (List.mem_erase_of_ne hne).2 (hs x (by simp [hx])))
    simp; omega

section group
variable {α : Type} (op : α → α → α) (e : α)

/-- A power in a group, by its operation. -/
def npow (g : α) : Nat → α
  | 0 => e
  | n + 1 => op g (npow g n)

/-- The product of a list. -/
def prodL : List α → α
  | [] => e
  | a :: t => op a (prodL t)

/-- The laws of a commutative group on the members of a list. -/
structure Grp (M : α → Prop) : Prop where
  one : M e
  cl : ∀ a b, M a → M b → M (op a b)
  assoc : ∀ a b c, M a → M b → M c → op (op a b) c = op a (op b c)
  comm : ∀ a b, M a → M b → op a b = op b a
  id : ∀ a, M a → op e a = a
  inv : ∀ a, M a → ∃ b, M b ∧ op b a = e

variable {op e} {M : α → Prop} (H : Grp op e M)
include H

theorem npow_mem (g : α) (hg : M g) : ∀ n, M (npow op e g n)
  | 0 => H.one
  | n + 1 => H.cl _ _ hg (npow_mem g hg n)

theorem npow_add (g : α) (hg : M g) (m : Nat) : ∀ n, npow op e g (n + m) = op (npow op e g n) (npow op e g m)
  | 0 => by rw [Nat.zero_add]; exact (H.id _ (npow_mem H g hg m)).symm
  | n + 1 => by
    rw [show n + 1 + m = (n + m) + 1 from by omega]
    show op g (npow op e g (n + m)) = op (op g (npow op e g n)) _
    rw [npow_add g hg m n, H.assoc _ _ _ hg (npow_mem H g hg n) (npow_mem H g hg m)]

theorem npow_one (n : Nat) : npow op e e n = e := by
  induction n with
  | zero => rfl
  | succ n ih => show op e _ = e; rw [ih, H.id _ H.one]

theorem npow_mul (g : α) (hg : M g) (m : Nat) : ∀ n, npow op e g (m * n) = npow op e (npow op e g m) n
  | 0 => rfl
  | n + 1 => by
    rw [Nat.mul_succ, Nat.add_comm, npow_add H g hg, npow_mul g hg m n]; rfl

theorem npow_mod (g : α) (hg : M g) (a b : Nat) (hb : npow op e g b = e) : npow op e g (a % b) = npow op e g a := by
  have h : a = b * (a / b) + a % b := (Nat.div_add_mod a b).symm
  have h2 : npow op e g a = npow op e g (b * (a / b) + a % b) := by rw [← h]
  rw [h2, npow_add H g hg, npow_mul H g hg, hb, npow_one H, H.id _ (npow_mem H g hg _)]

/-- Two exponents that lead to one: so does their greatest common divisor. -/
theorem npow_gcd (g : α) (hg : M g) (a b : Nat) : npow op e g a = e → npow op e g b = e → npow op e g (Nat.gcd a b) = e := by
  induction a, b using Nat.gcd.induction with
  | H0 n => intro _ h; simpa using h
  | H1 m n _ ih =>
    intro ha hb
    rw [Nat.gcd_rec]
    exact ih (by rw [npow_mod H g hg n m ha]; exact hb) ha

theorem prodL_mem : ∀ (l : List α), (∀ x, x ∈ l → M x) → M (prodL op e l)
  | [], _ => H.one
  | a :: t, h => H.cl _ _ (h a (by simp)) (prodL_mem t fun x hx => h x (by simp [hx]))

theorem prodL_perm {l₁ l₂ : List α} (hp : l₁.Perm l₂) : (∀ x, x ∈ l₁ → M x) → prodL op e l₁ = prodL op e l₂ := by
  induction hp with
  | nil => intro _; rfl
  | cons a _ ih => intro h; show op a _ = op a _; rw [ih fun x hx => h x (by simp [hx])]
  | swap a b l =>
    intro h
    have ha : M a := h a (by simp)
    have hb : M b := h b (by simp)
    have hl : M (prodL op e l) := prodL_mem H l fun x hx => h x (by simp [hx])
    show op b (op a _) = op a (op b _)
    rw [← H.assoc _ _ _ hb ha hl, H.comm _ _ hb ha, H.assoc _ _ _ ha hb hl]
  | trans h1 _ ih1 ih2 => intro h; rw [ih1 h]; exact ih2 fun x hx => h x (h1.mem_iff.2 hx)

theorem prodL_map (g : α) (hg : M g) : ∀ (l : List α), (∀ x, x ∈ l → M x) → prodL op e (l.map (op g)) = op (npow op e g l.length) (prodL op e l)
  | [], _ => (H.id _ H.one).symm
  | a :: t, h => by
    have ha : M a := h a (by simp)
    have ht : ∀ x, x ∈ t → M x := fun x hx => h x (by simp [hx])
    have h1 := npow_mem H g hg t.length
    have h2 := prodL_mem H t ht
    show op (op g a) (prodL op e (t.map (op g))) = op (op g (npow op e g t.length)) (op a (prodL op e t))
    rw [prodL_map g hg t ht, H.assoc _ _ _ hg ha (H.cl _ _ h1 h2), H.assoc _ _ _ hg h1 (H.cl _ _ ha h2),
      ← H.assoc _ _ _ ha h1 h2, H.comm _ _ ha h1, H.assoc _ _ _ h1 ha h2]

theorem cancel (a b c : α) (ha : M a) (hb : M b) (hc : M c) (h : op a b = op a c) : b = c := by
  obtain ⟨i, hi, e1⟩ := H.inv a ha
  have : op i (op a b) = op i (op a c) := by rw [h]
  rwa [← H.assoc _ _ _ hi ha hb, ← H.assoc _ _ _ hi ha hc, e1, H.id _ hb, H.id _ hc] at this

/-- In a finite commutative group each member to the power of their number is one. -/
theorem npow_card [DecidableEq α] (G : List α) (nd : G.Nodup) (hG : ∀ x, x ∈ G ↔ M x) (g : α) (hg : M g) : npow op e g G.length = e := by
  have hM : ∀ x, x ∈ G → M x := fun x hx => (hG x).1 hx
  have hnd : (G.map (op g)).Nodup := by
    refine List.Pairwise.map _ ?_ (List.Pairwise.and_mem.1 nd)
    intro a b hab heq
    exact hab.2.2 (cancel H g a b hg (hM _ hab.1) (hM _ hab.2.1) heq)
  have hp : (G.map (op g)).Perm G := perm_of_subset _ _ hnd (by
    intro x hx
    obtain ⟨y, hy, rfl⟩ := List.mem_map.1 hx
    exact (hG _).2 (H.cl _ _ hg (hM y hy))) (by simp)
  have h1 := prodL_perm H hp (by
    intro x hx
    obtain ⟨y, hy, rfl⟩ := List.mem_map.1 hx
    exact H.cl _ _ hg (hM y hy))
  rw [prodL_map H g hg G hM] at h1
  have hq := prodL_mem H G hM
  have hn := npow_mem H g hg G.length
  have h2 : op (prodL op e G) (npow op e g G.length) = op (prodL op e G) e := by
    rw [H.comm _ _ hq hn, h1, H.comm _ _ hq H.one, H.id _ hq]
  exact cancel H _ _ _ hq hn H.one h2
end group
end Num
