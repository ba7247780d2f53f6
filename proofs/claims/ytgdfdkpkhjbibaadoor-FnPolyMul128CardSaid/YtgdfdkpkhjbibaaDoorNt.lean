/-
  The transform, in place (written by gennt.py).
-/
import Derived.Test.YtgdfdkpkhjbibaaDoorBb
namespace Go.Proofs.YtgdfdkpkhjbibaaDoor
open Go.RowKit
/-- A block's list by its places: from o on there lie m numbers T, else F. -/
def nst (F T : Nat → Nat) (o m e : Nat) : Nat := if o ≤ e ∧ e < o + m then T (e - o) else F e
def lsT (F T : Nat → Nat) (o m M : Nat) : List Nat := (List.range M).map (nst F T o m)
/-- One place turned. -/
def upd (T : Nat → Nat) (e r : Nat) : Nat → Nat := fun d => if d = e then r else T d
theorem upd_eq (T : Nat → Nat) (e r : Nat) : upd T e r e = r := if_pos rfl
theorem upd_ne (T : Nat → Nat) {e d : Nat} (r : Nat) (h : d ≠ e) : upd T e r d = T d := if_neg h
theorem lsT_len (F T : Nat → Nat) (o m M : Nat) : (lsT F T o m M).length = M := by simp [lsT]
theorem lsT_at {F T : Nat → Nat} {o m M e : Nat} (h : e < m) (hM : o + m ≤ M) : (lsT F T o m M).getD (o + e) 0 = T e := by
  unfold lsT
  rw [mapR_get (nst F T o m) (show o + e < M by omega)]
  unfold nst
  rw [if_pos (by omega), Nat.add_sub_cancel_left]
theorem lsT_upd {F T : Nat → Nat} {o m M e : Nat} (h : e < m) (r : Nat) : (lsT F T o m M).set (o + e) r = lsT F (upd T e r) o m M := mapR_set (by
  unfold nst
  rw [if_pos (by omega), Nat.add_sub_cancel_left, upd_eq]) (fun d hd => by
  unfold nst
  by_cases hq : o ≤ d ∧ d < o + m
  · rw [if_pos hq, if_pos hq, upd_ne T r (by omega)]
  · rw [if_neg hq, if_neg hq])
theorem lsT_congr {F T T' : Nat → Nat} {o m M : Nat} (h : ∀ e, e < m → T e = T' e) : lsT F T o m M = lsT F T' o m M := List.map_congr_left fun d _ => by
  unfold nst
  by_cases hq : o ≤ d ∧ d < o + m
  · rw [if_pos hq, if_pos hq, h _ (by omega)]
  · rw [if_neg hq, if_neg hq]
theorem lsT_id (F : Nat → Nat) (o m M : Nat) : lsT F (fun e => F (o + e)) o m M = (List.range M).map F := List.map_congr_left fun d _ => by
  unfold nst
  by_cases hq : o ≤ d ∧ d < o + m
  · rw [if_pos hq]
    show F (o + (d - o)) = F d
    rw [show o + (d - o) = d by omega]
  · rw [if_neg hq]
section
variable {D : Nat → Bool} {w0 : World} {η : List (Nat × Obj)}
theorem locT (k : Nat) {b TT e o m M : Nat} {F T : Nat → Nat} (h : η[k]? = some (b, .cells (flat fpC (lsT F T o m M)) TT (0, 0))) (he : e < m) (hM : o + m ≤ M) : LocF D w0 η b ((o + e) * 2) (T e) := by
  have h2 := locE (D := D) (w0 := w0) k h (i := o + e) (by rw [lsT_len]; omega)
  rwa [lsT_at he hM] at h2
theorem dstT (k : Nat) {b TT e o m M : Nat} {F T : Nat → Nat} (h : η[k]? = some (b, .cells (flat fpC (lsT F T o m M)) TT (0, 0))) (he : e < m) (hM : o + m ≤ M) (hD : w0.heap.size ≤ b ∨ D b = true) : DstF D w0 η b ((o + e) * 2) (fun r => η.set k (b, .cells (flat fpC (lsT F (upd T e r) o m M)) TT (0, 0))) := by
  have h2 := dstE (D := D) (w0 := w0) k h (i := o + e) (by rw [lsT_len]; omega) hD
  simp only [lsT_upd he] at h2
  exact h2
end
theorem Put.T {P : Program} {n : Nat} {σ : List (Nat × Value)} {t TT ty : TypeId} {pos : String} {af : Array Edge} {x y : Operand} {b e o m M r : Nat} {F T : Nat → Nat} (hx : evS σ x = some (.pointer (some ⟨b, (o + e) * 2, none⟩))) (hy : evS σ y = some (.agg (fpC r))) (hi : (P.info? t).map (·.size) = some nl) (he : e < m) (hM : o + m ≤ M) :
    Put P n σ ⟨none, .store t x y, ty, pos, af, none⟩ b (.cells (flat fpC (lsT F T o m M)) TT (0, 0)) (.cells (flat fpC (lsT F (upd T e r) o m M)) TT (0, 0)) := by
  have hl : o + e < (lsT F T o m M).length := by rw [lsT_len]; omega
  rw [← lsT_upd he, ← els_put hl]
  exact Put.at hx hy hi (by rw [flat_size szE]; have := Nat.mul_le_mul_right 2 (show o + e + 1 ≤ (lsT F T o m M).length from hl); show (o + e) * 2 + 2 ≤ (lsT F T o m M).length * 2; omega)
/-- What lies there in the midst of a stage: places i of all blocks before, and of the first j blocks. -/
def mid (x : Nat → Nat) (n l i j e : Nat) : Nat := if e % 2 ^ l < i ∨ (e % 2 ^ l = i ∧ e / 2 ^ (l + 1) < j) then stage rt x n (l + 1) e else stage rt x n l e
theorem mid_lt (x : Nat → Nat) (n l i j e : Nat) : mid x n l i j e < pf := by
  unfold mid; split <;> exact stage_lt _ _ _ _ _
theorem mid_zero (x : Nat → Nat) (n l e : Nat) : mid x n l 0 0 e = stage rt x n l e := by
  unfold mid; rw [if_neg (fun h => h.elim (Nat.not_lt_zero _) (fun h => Nat.not_lt_zero _ h.2))]
theorem mid_end (x : Nat → Nat) (n l e : Nat) : mid x n l (2 ^ l) 0 e = stage rt x n (l + 1) e := by
  unfold mid
  have h := Nat.mod_lt e (Nat.two_pow_pos l)
  rw [if_pos (by omega)]
theorem mid_row (x : Nat → Nat) {n l i e : Nat} (hl : l < n) (he : e < 2 ^ n) : mid x n l i (2 ^ (n - l - 1)) e = mid x n l (i + 1) 0 e := by
  have h : e / 2 ^ (l + 1) < 2 ^ (n - l - 1) := Nat.div_lt_of_lt_mul (by rw [← Nat.pow_add, show l + 1 + (n - l - 1) = n by omega]; exact he)
  unfold mid
  generalize e / 2 ^ (l + 1) = q at *
  have h0 := Nat.not_lt_zero q
  by_cases h1 : e % 2 ^ l < i + 1
  · rw [if_pos (by omega), if_pos (by omega)]
  · rw [if_neg (by omega), if_neg (by omega)]
theorem place1 {l i j : Nat} (hi : i < 2 ^ l) : (j * 2 ^ (l + 1) + i) % 2 ^ l = i ∧ (j * 2 ^ (l + 1) + i) / 2 ^ (l + 1) = j := by
  have h2 : 2 ^ (l + 1) = 2 ^ l * 2 := Nat.pow_succ _ _
  refine ⟨?_, ?_⟩
  · rw [h2, ← Nat.mul_assoc, Nat.mul_right_comm, Nat.add_comm, Nat.add_mul_mod_self_right, Nat.mod_eq_of_lt hi]
  · rw [Nat.add_comm, Nat.add_mul_div_right _ _ (Nat.two_pow_pos _), Nat.div_eq_of_lt (by omega), Nat.zero_add]
theorem place2 {l i j : Nat} (hi : i < 2 ^ l) : (j * 2 ^ (l + 1) + i + 2 ^ l) % 2 ^ l = i ∧ (j * 2 ^ (l + 1) + i + 2 ^ l) / 2 ^ (l + 1) = j := by
  have h2 : 2 ^ (l + 1) = 2 ^ l * 2 := Nat.pow_succ _ _
  refine ⟨?_, ?_⟩
  · rw [Nat.add_mod_right, (place1 hi).1]
  · rw [show j * 2 ^ (l + 1) + i + 2 ^ l = (i + 2 ^ l) + j * 2 ^ (l + 1) by omega, Nat.add_mul_div_right _ _ (Nat.two_pow_pos _), Nat.div_eq_of_lt (by omega), Nat.zero_add]
theorem place_of {l i j e : Nat} (h1 : e % 2 ^ l = i) (h2 : e / 2 ^ (l + 1) = j) : e = j * 2 ^ (l + 1) + i ∨ e = j * 2 ^ (l + 1) + i + 2 ^ l := by
  have h3 := Nat.div_add_mod e (2 ^ (l + 1))
  rw [h2, Nat.mul_comm] at h3
  have h4 : e % 2 ^ (l + 1) % 2 ^ l = i := by rw [Nat.pow_succ, Nat.mod_mul_right_mod]; exact h1
  have h5 := Nat.mod_lt e (Nat.two_pow_pos (l + 1))
  have h6 : 2 ^ (l + 1) = 2 ^ l + 2 ^ l := by rw [Nat.pow_succ]; omega
  generalize e % 2 ^ (l + 1) = q at *
  by_cases hq : q < 2 ^ l
  · rw [Nat.mod_eq_of_lt hq] at h4; omega
  · rw [Nat.mod_eq_sub_mod (by omega), Nat.mod_eq_of_lt (by omega)] at h4; omega
theorem addr_lt {n l i j : Nat} (hl : l < n) (hi : i < 2 ^ l) (hj : j < 2 ^ (n - l - 1)) : j * 2 ^ (l + 1) + i + 2 ^ l < 2 ^ n := by
  have h1 : (j + 1) * 2 ^ (l + 1) ≤ 2 ^ (n - l - 1) * 2 ^ (l + 1) := Nat.mul_le_mul_right _ hj
  rw [← Nat.pow_add, show n - l - 1 + (l + 1) = n by omega, Nat.succ_mul] at h1
  have h6 : 2 ^ (l + 1) = 2 ^ l + 2 ^ l := by rw [Nat.pow_succ]; omega
  omega
theorem mid_at1 (x : Nat → Nat) {n l i j : Nat} (hi : i < 2 ^ l) : mid x n l i j (j * 2 ^ (l + 1) + i) = stage rt x n l (j * 2 ^ (l + 1) + i) := by
  unfold mid; rw [(place1 hi).1, (place1 hi).2, if_neg (by omega)]
theorem mid_at2 (x : Nat → Nat) {n l i j : Nat} (hi : i < 2 ^ l) : mid x n l i j (j * 2 ^ (l + 1) + i + 2 ^ l) = stage rt x n l (j * 2 ^ (l + 1) + i + 2 ^ l) := by
  unfold mid; rw [(place2 hi).1, (place2 hi).2, if_neg (by omega)]
theorem rt_cg {l : Nat} (h : l < 66) : Cg (rt (l + 1) * rt (l + 1)) (rt l) := by
  show rt (l + 1) * rt (l + 1) % pf = rt l % pf
  rw [rt_sq l h, Nat.mod_eq_of_lt (rt_lt (by omega))]
theorem rt_neg1 : (rt 1 + 1) % pf = 0 := by decide +kernel
theorem rt_neg : ∀ l, l < 66 → Cg (rt (l + 1) ^ 2 ^ l + 1) 0
  | 0, _ => by show (rt 1 ^ 2 ^ 0 + 1) % pf = 0 % pf; rw [Nat.pow_zero, Nat.pow_one, rt_neg1, Nat.zero_mod]
  | l + 1, h => by
    have ih := rt_neg l (by omega)
    have e : rt (l + 1 + 1) ^ 2 ^ (l + 1) = (rt (l + 1 + 1) * rt (l + 1 + 1)) ^ 2 ^ l := by
      rw [← Nat.pow_two, ← Nat.pow_mul]; congr 1; rw [Nat.pow_succ, Nat.mul_comm]
    rw [e]
    exact (((rt_cg (l := l + 1) h).pow (2 ^ l)).add (Cg.refl 1)).trans ih
/-- A block's two places behind a step. -/
theorem mid_step (x : Nat → Nat) {n l i j : Nat} {u v : Nat} (hl : l < n) (hn : n ≤ 66) (hi : i < 2 ^ l)
    (hu : u = (stage rt x n l (j * 2 ^ (l + 1) + i) + (rt (l + 1) ^ i % pf) * stage rt x n l (j * 2 ^ (l + 1) + i + 2 ^ l) % pf) % pf)
    (hv : v = subF (stage rt x n l (j * 2 ^ (l + 1) + i)) ((rt (l + 1) ^ i % pf) * stage rt x n l (j * 2 ^ (l + 1) + i + 2 ^ l) % pf)) (e : Nat) :
    upd (upd (mid x n l i j) (j * 2 ^ (l + 1) + i) u) (j * 2 ^ (l + 1) + i + 2 ^ l) v e = mid x n l i (j + 1) e := by
  obtain ⟨h1, h2⟩ := stage_next rt x hl (j := j) hi (rt_cg (by omega)) (rt_neg l (by omega))
  rw [← hu] at h1
  rw [← hv] at h2
  have hp := Nat.two_pow_pos l
  by_cases e2 : e = j * 2 ^ (l + 1) + i + 2 ^ l
  · subst e2
    rw [upd_eq, ← h2]
    unfold mid; rw [(place2 hi).1, (place2 hi).2, if_pos (by omega)]
  · rw [upd_ne _ _ e2]
    by_cases e1 : e = j * 2 ^ (l + 1) + i
    · subst e1
      rw [upd_eq, ← h1]
      unfold mid; rw [(place1 hi).1, (place1 hi).2, if_pos (by omega)]
    · rw [upd_ne _ _ e1]
      unfold mid
      have hne : ¬ (e % 2 ^ l = i ∧ e / 2 ^ (l + 1) = j) := fun h => by
        rcases place_of h.1 h.2 with h | h
        · exact e1 h
        · exact e2 h
      by_cases hc : e % 2 ^ l < i ∨ (e % 2 ^ l = i ∧ e / 2 ^ (l + 1) < j)
      · rw [if_pos hc, if_pos (by omega)]
      · rw [if_neg hc, if_neg (by omega)]
theorem one_mulp {a : Nat} (h : a < pf) (r : Nat) : r ^ 0 % pf * a % pf = a := by
  rw [Nat.pow_zero, Nat.mod_eq_of_lt one_lt, Nat.one_mul, Nat.mod_eq_of_lt h]
theorem mid_stepI (x : Nat → Nat) {n l i j : Nat} {u v : Nat} (hl : l < n) (hn : n ≤ 66) (hi : i < 2 ^ l)
    (hu : u = (mid x n l i j (j * 2 ^ (l + 1) + i) + (rt (l + 1) ^ i % pf) * mid x n l i j (j * 2 ^ (l + 1) + i + 2 ^ l) % pf) % pf)
    (hv : v = subF (mid x n l i j (j * 2 ^ (l + 1) + i)) ((rt (l + 1) ^ i % pf) * mid x n l i j (j * 2 ^ (l + 1) + i + 2 ^ l) % pf)) (e : Nat) :
    upd (upd (mid x n l i j) (j * 2 ^ (l + 1) + i) u) (j * 2 ^ (l + 1) + i + 2 ^ l) v e = mid x n l i (j + 1) e :=
  mid_step x hl hn hi (by rw [hu, mid_at1 x hi, mid_at2 x hi]) (by rw [hv, mid_at1 x hi, mid_at2 x hi]) e
theorem mid_step0 (x : Nat → Nat) {n l j : Nat} {u v : Nat} (hl : l < n) (hn : n ≤ 66)
    (hu : u = (mid x n l 0 j (j * 2 ^ (l + 1)) + mid x n l 0 j (j * 2 ^ (l + 1) + 2 ^ l)) % pf)
    (hv : v = subF (mid x n l 0 j (j * 2 ^ (l + 1))) (mid x n l 0 j (j * 2 ^ (l + 1) + 2 ^ l))) (e : Nat) :
    upd (upd (mid x n l 0 j) (j * 2 ^ (l + 1)) u) (j * 2 ^ (l + 1) + 2 ^ l) v e = mid x n l 0 (j + 1) e :=
  mid_stepI x (i := 0) hl hn (Nat.two_pow_pos l) (by rw [hu, one_mulp (mid_lt _ _ _ _ _ _)]; rfl) (by rw [hv, one_mulp (mid_lt _ _ _ _ _ _)]; rfl) e
theorem pow_next (r i : Nat) (h : 0 < i) : r ^ (i - 1) % pf * r % pf = r ^ i % pf := by
  obtain ⟨q, rfl⟩ : ∃ q, i = q + 1 := ⟨i - 1, by omega⟩
  rw [Nat.add_sub_cancel, Nat.mod_mul_mod, ← Nat.pow_succ]
/-- Behind the copying of the first i values. -/
def cpy (x F : Nat → Nat) (k o i e : Nat) : Nat := if e < i then x (rev k e) else F (o + e)
theorem cpy_zero (x F : Nat → Nat) (k o : Nat) : cpy x F k o 0 = fun e => F (o + e) := by
  funext e; unfold cpy; rw [if_neg (by omega)]
theorem cpy_set (x F : Nat → Nat) (k o i e : Nat) : upd (cpy x F k o i) i (x (rev k i)) e = cpy x F k o (i + 1) e := by
  by_cases h : e = i
  · subst h; rw [upd_eq]; unfold cpy; rw [if_pos (by omega)]
  · rw [upd_ne _ _ h]; unfold cpy
    by_cases h2 : e < i
    · rw [if_pos h2, if_pos (by omega)]
    · rw [if_neg h2, if_neg (by omega)]
theorem cpy_not (x F : Nat → Nat) (k o i e : Nat) (h : F (o + i) = x (rev k i)) : cpy x F k o i e = cpy x F k o (i + 1) e := by
  unfold cpy
  by_cases h2 : e < i
  · rw [if_pos h2, if_pos (by omega)]
  · by_cases h3 : e = i
    · subst h3; rw [if_neg h2, if_pos (by omega), h]
    · rw [if_neg h2, if_neg (by omega)]
theorem cpy_end {x : Nat → Nat} (F : Nat → Nat) {k : Nat} (hx : ∀ s, x s < pf) (o e : Nat) (he : e < 2 ^ k) : cpy x F k o (2 ^ k) e = stage rt x k 0 e := by
  unfold cpy; rw [if_pos he, stage_zero rt hx]
theorem gd_lt {l : List Nat} (h : AllLt l) (s : Nat) : gd l s < pf := by
  by_cases hs : s < l.length
  · exact h s hs
  · rw [gd_zero l s (by omega)]; exact pf_pos
theorem wrapUn {k : Nat} (h : k < 18446744073709551616) : IntKind.u64.wrap (k : Int) = (k : Int) := by
  rw [IntKind.wrap_u64]; omega
theorem subU {Y : Int} {a b : Nat} (hY : Y = b) (h : b ≤ a) (ha : a < 18446744073709551616) : IntKind.u64.wrap ((a : Int) - Y) = ((a - b : Nat) : Int) := by
  subst hY; rw [IntKind.wrap_u64]; omega
theorem addU {Y : Int} {a b : Nat} (hY : Y = b) (h : a + b < 18446744073709551616) : IntKind.u64.wrap ((a : Int) + Y) = ((a + b : Nat) : Int) := by
  subst hY; rw [IntKind.wrap_u64]; omega
theorem shlU {X : Int} {a m : Nat} (hX : X = a) (h : a * 2 ^ m < 18446744073709551616) : IntKind.u64.wrap (X * 2 ^ ((m : Nat) : Int).toNat) = ((a * 2 ^ m : Nat) : Int) := by
  subst hX
  rw [Int.toNat_natCast, IntKind.wrap_u64]
  have e : (a : Int) * 2 ^ m = ((a * 2 ^ m : Nat) : Int) := by norm_cast
  rw [e]
  generalize a * 2 ^ m = q at *
  omega
theorem leqU (a m : Nat) : decide ((a : Int) ≤ (m : Int)) = decide (a ≤ m) := leqN a m
theorem p2_le {k m : Nat} (hk : k < 7) (hm : m ≤ k) : 2 ^ m ≤ 64 := Nat.le_trans (Nat.pow_le_pow_right (by decide) (show m ≤ 6 by omega)) (by decide)

theorem nextPow2_any {k : Nat} {w : World} (hd : DB w) (hk : k < 7) : Calls Tryd.prog 122 #[.int .u64 ((2 ^ k : Nat) : Int)] w fun e w' => e = .returned (.tuple #[.int .u64 ((2 ^ k : Nat) : Int), .int .u64 ((k : Nat) : Int)]) ∧ Below w.heap.size w w' := by
  have h1 := p2_le hk (Nat.le_refl k)
  have h := nextPow_any (x := 2 ^ k) hd (by omega) (by have := Nat.two_pow_pos k; omega)
  rwa [lg_of k hk] at h

set_option maxRecDepth 100000 in
theorem ntt_any {F : Nat → Nat} {x : List Nat} {k o M b c : Nat} {adx : Option Addr} {bx ox cx : Nat} {w : World} (hk : k < 7) (hM : o + 2 ^ k ≤ M) (ht : RT w) (hd : DB w) (h0 : w.heap[b]? = some (.cells (flat fpC ((List.range M).map F)) 81 (0, 0))) (hbT : 1 ≠ b) (hbD : 11 ≠ b) (hp : AllLt x) (hl : x.length ≤ 100000)
    (hz : ∀ e, e < 2 ^ k → x.length ≤ rev k e → F (o + e) = 0) (hat : 0 < x.length → adx = some ⟨bx, ox, none⟩) (hv : ∀ w' T, Sn (fun k => k == b) w w' → w'.heap[b]? = some (.cells (flat fpC (lsT F T o (2 ^ k) M)) 81 (0, 0)) → ∀ j, j < x.length → FpAt w' bx (ox + j * 2) (x.getD j 0)) :
    Calls Tryd.prog 100 #[.slice (some ⟨b, o * 2, none⟩) (2 ^ k) c, .slice adx x.length cx, .int .u64 ((2 ^ k : Nat) : Int)] w fun e w' => e = .returned (.tuple #[]) ∧ Hold (fun k => k == b) w [(b, .cells (flat fpC (lsT F (fun e => evN (2 ^ k) (gd x) (rt k ^ e) % pf) o (2 ^ k) M)) 81 (0, 0))] w' := by
  have hpk := p2_le hk (Nat.le_refl k)
  refine calls_H (args := [.slice (some ⟨b, o * 2, none⟩) (2 ^ k) c, .slice adx x.length cx, .int .u64 ((2 ^ k : Nat) : Int)]) (fun k => k == b) [(b, .cells (flat fpC ((List.range M).map F)) 81 (0, 0))] Tryd.func100 rfl (m := 137) rfl rfl (hold_one h0) ?_
  refine HC.seq ?_
  refine HC.region ?_
  refine HL.val (Val.move rfl) (by decide) ?_
  refine HL.val (Val.lenS rfl rfl Tryd.underlying105) (by decide) ?_
  refine HL.val ((Val.convI rfl rfl Tryd.underlying22).as (congrArg (Value.int .u64) (wrapUn (k := x.length) (by omega)))) (by decide) ?_
  refine HL.val (Val.assign rfl) (by decide) ?_
  refine HL.nil ?_
  refine HQ.next ?_
  refine HC.seq ?_
  refine HC.region ?_
  refine HL.val (Val.move rfl) (by decide) ?_
  refine HL.val (Val.calls en122 (fun w hw => nextPow2_any (hd.sn hw.sn (beq_false_of_ne hbD)) hk) rfl) (by decide) ?_
  refine HL.val (Val.move rfl) (by decide) ?_
  refine HL.val (Val.extract rfl rfl) (by decide) ?_
  refine HL.val (Val.extract rfl rfl) (by decide) ?_
  refine HL.val (Val.assign rfl) (by decide) ?_
  refine HL.val (Val.assign rfl) (by decide) ?_
  refine HL.nil ?_
  refine HQ.next ?_
  refine HC.seq ?_
  refine HC.seq ?_
  refine HC.region ?_
  refine HL.val (Val.move rfl) (by decide) ?_
  refine HL.val (Val.lenS rfl rfl Tryd.underlying105) (by decide) ?_
  refine HL.val (Val.move rfl) (by decide) ?_
  refine HL.nil ?_
  refine HQ.next ?_
  refine HC.block ?_
  refine HC.loop (ι := {p : Nat // p ≤ 2 ^ k}) (fun p => 2 ^ k - p.1) (fun p => [(0, .slice (some ⟨b, o * 2, none⟩) (2 ^ k) c), (1, .slice adx x.length cx), (6, .int .u64 ((x.length : Nat) : Int)), (8, .int .u64 ((k : Nat) : Int)), (34, .int .i64 (p.1 : Int)), (33, .int .i64 ((2 ^ k : Nat) : Int))]) (fun p => [(b, .cells (flat fpC (lsT F (cpy (gd x) F k o p.1) o (2 ^ k) M)) 81 (0, 0))]) ⟨0, Nat.zero_le _⟩ (fun ac wc ha hw => ⟨ha.subS ⟨rfl, rfl, rfl, rfl, rfl, rfl, trivial⟩, by have h := hw.pick [0] (by simp); dsimp only; rw [cpy_zero, lsT_id]; exact h⟩) ?_
  rintro ⟨i, hi⟩
  dsimp only
  refine HC.seq ?_
  refine HC.region ?_
  by_cases hil : i < 2 ^ k
  · refine HL.val ((Val.lss rfl rfl).as (congrArg Value.bool ((lssN i (2 ^ k)).trans (decide_eq_true hil)))) (by decide) ?_
    refine HL.nil ?_
    refine HQ.next ?_
    refine HC.seq ?_
    refine HC.yes rfl ?_
    refine HC.skip ?_
    refine HQ.next ?_
    refine HC.seq ?_
    refine HC.block ?_
    refine HC.seq ?_
    refine HC.region ?_
    refine HL.val (Val.move rfl) (by decide) ?_
    refine HL.val (Val.assign rfl) (by decide) ?_
    refine HL.nil ?_
    refine HQ.next ?_
    refine HC.seq ?_
    refine HC.region ?_
    refine HL.val (Val.move rfl) (by decide) ?_
    refine HL.val ((Val.convI rfl rfl Tryd.underlying22).as (congrArg (Value.int .u64) (wrapUn (k := i) (by omega)))) (by decide) ?_
    refine HL.val (Val.move rfl) (by decide) ?_
    refine HL.val (Val.call en123 (bitRev_p hk hil) rfl) (by decide) ?_
    refine HL.val (Val.assign rfl) (by decide) ?_
    refine HL.nil ?_
    refine HQ.next ?_
    refine HC.seq ?_
    refine HC.region ?_
    refine HL.val (Val.move rfl) (by decide) ?_
    refine HL.val (Val.move rfl) (by decide) ?_
    by_cases hr : rev k i < x.length
    · refine HL.val (((Val.lss rfl rfl).as (congrArg Value.bool (lssN ((rev k i)) (x.length)))).as (congrArg Value.bool (decide_eq_true hr))) (by decide) ?_
      refine HL.nil ?_
      refine HQ.next ?_
      refine HC.yes rfl ?_
      refine HC.region ?_
      refine HL.val (Val.move rfl) (by decide) ?_
      refine HL.val (Val.move rfl) (by decide) ?_
      refine HL.val (Val.move rfl) (by decide) ?_
      refine HL.val (Val.move rfl) (by decide) ?_
      refine HL.val (Val.ixSliceA (s := 2) (i := rev k i) (ox + rev k i * 2) rfl (hat (by omega)) rfl Tryd.underlying105 (by kernel_rfl) hr rfl) (by decide) ?_
      refine HL.val (Val.load_cells (fpC (gd x (rev k i))) rfl (fun w hw => RawAt.cells (x := mont (gd x (rev k i))) (hv w _ hw.sn (hw.at (i := 0) rfl) (rev k i) hr)) Tryd.underlying81 rfl (by kernel_rfl)) (by decide) ?_
      refine HL.val (Val.ixSlice (s := 2) (i := i) ((o + i) * 2) rfl rfl Tryd.underlying105 (by kernel_rfl) hil (by omega)) (by decide) ?_
      refine HL.put 0 rfl (Put.T rfl rfl (by kernel_rfl) hil hM) (ownB b) ?_
      simp only [List.set_cons_zero]
      refine HL.nil ?_
      refine HQ.blockNormal ?_
      refine HQ.next ?_
      refine HC.region ?_
      refine HL.val ((Val.addI rfl rfl).as (congrArg (Value.int .i64) (wrap1 i (by omega)))) (by decide) ?_
      refine HL.val (Val.move rfl) (by decide) ?_
      refine HL.nil ?_
      exact ⟨fun ac wc ha hw => ⟨⟨i + 1, hil⟩, by dsimp only; omega, ha.subS ⟨rfl, rfl, rfl, rfl, rfl, rfl, trivial⟩, by have h := hw.pick [0] (by simp); simp only [List.filterMap_cons, List.filterMap_nil, List.getElem?_cons_zero] at h; rw [lsT_congr (fun e _ => cpy_set (gd x) F k o i e)] at h; exact h⟩⟩
    · refine HL.val (((Val.lss rfl rfl).as (congrArg Value.bool (lssN ((rev k i)) (x.length)))).as (congrArg Value.bool (decide_eq_false hr))) (by decide) ?_
      refine HL.nil ?_
      refine HQ.next ?_
      refine HC.no rfl ?_
      refine HC.skip ?_
      refine HQ.blockNormal ?_
      refine HQ.next ?_
      refine HC.region ?_
      refine HL.val ((Val.addI rfl rfl).as (congrArg (Value.int .i64) (wrap1 i (by omega)))) (by decide) ?_
      refine HL.val (Val.move rfl) (by decide) ?_
      refine HL.nil ?_
      exact ⟨fun ac wc ha hw => ⟨⟨i + 1, hil⟩, by dsimp only; omega, ha.subS ⟨rfl, rfl, rfl, rfl, rfl, rfl, trivial⟩, by have h := hw.pick [0] (by simp); simp only [List.filterMap_cons, List.filterMap_nil, List.getElem?_cons_zero] at h; rw [lsT_congr (fun e _ => cpy_not (gd x) F k o i e ((hz i hil (by omega)).trans (gd_zero x _ (by omega)).symm))] at h; exact h⟩⟩
  · refine HL.val ((Val.lss rfl rfl).as (congrArg Value.bool ((lssN i (2 ^ k)).trans (decide_eq_false hil)))) (by decide) ?_
    refine HL.nil ?_
    refine HQ.next ?_
    refine HC.seq ?_
    refine HC.no rfl ?_
    refine HC.exit ?_
    refine HQ.thenExit ?_
    refine HQ.thenExit ?_
    refine HQ.blockExit ?_
    refine HQ.next ?_
    refine HC.seq ?_
    refine HC.region ?_
    refine HL.new (New.alloc al81) (by decide) ?_
    intro b1 hb1
    refine HL.new (New.alloc al81) (by decide) ?_
    intro b2 hb2
    refine HL.new (New.alloc al81) (by decide) ?_
    intro b3 hb3
    refine HL.nil ?_
    refine HQ.next ?_
    refine HC.seq ?_
    refine HC.region ?_
    refine HL.val (Val.assign rfl) (by decide) ?_
    refine HL.nil ?_
    refine HQ.next ?_
    refine HC.block ?_
    obtain rfl : i = 2 ^ k := by omega
    refine HC.loop (ι := {p : Nat × Nat × Nat × Nat // p.1 ≤ k}) (fun p => k - p.1.1) (fun p => [(0, .slice (some ⟨b, o * 2, none⟩) (2 ^ k) c), (8, .int .u64 ((k : Nat) : Int)), (11, .pointer (some ⟨b1, 0, none⟩)), (12, .pointer (some ⟨b2, 0, none⟩)), (13, .pointer (some ⟨b3, 0, none⟩)), (14, .int .u64 ((p.1.1 + 1 : Nat) : Int))]) (fun p => [(b, .cells (flat fpC (lsT F (stage rt (gd x) k p.1.1) o (2 ^ k) M)) 81 (0, 0)), (b1, .cells (rawC p.1.2.1) 81 (0, 0)), (b2, .cells (rawC p.1.2.2.1) 81 (0, 0)), (b3, .cells (rawC p.1.2.2.2) 81 (0, 0))]) ⟨(0, 0, 0, 0), Nat.zero_le _⟩ (fun ac wc ha hw => ⟨ha.subS ⟨rfl, rfl, rfl, rfl, rfl, rfl, trivial⟩, by have h := hw.pick [3, 2, 1, 0] (by simp); simp only [List.filterMap_cons, List.filterMap_nil, List.getElem?_cons_zero, List.getElem?_cons_succ] at h; rw [lsT_congr (fun e he => cpy_end F (gd_lt hp) o e he)] at h; exact h⟩) ?_
    rintro ⟨⟨l, z1, z2, z3⟩, hl0⟩
    dsimp only at hl0 ⊢
    have hpl := p2_le hk hl0
    refine HC.seq ?_
    refine HC.seq ?_
    refine HC.region ?_
    refine HL.val (Val.move rfl) (by decide) ?_
    refine HL.val (Val.move rfl) (by decide) ?_
    by_cases hlk : l + 1 ≤ k
    · refine HL.val ((Val.leq rfl rfl).as (congrArg Value.bool ((leqU (l + 1) k).trans (decide_eq_true hlk)))) (by decide) ?_
      refine HL.nil ?_
      refine HQ.next ?_
      refine HC.yes rfl ?_
      refine HC.skip ?_
      refine HQ.next ?_
      refine HC.seq ?_
      refine HC.block ?_
      refine HC.seq ?_
      refine HC.region ?_
      refine HL.val (Val.move rfl) (by decide) ?_
      refine HL.val ((Val.subI rfl rfl).as (v := .int .u64 ((l : Nat) : Int)) (congrArg (Value.int .u64) (subU (a := l + 1) (b := 1) rfl (by omega) (by omega)))) (by decide) ?_
      refine HL.val ((Val.shlI rfl rfl (Int.natCast_nonneg _) (show ((l : Nat) : Int) ≤ 64 by omega)).as (v := .int .u64 ((2 ^ l : Nat) : Int)) (congrArg (Value.int .u64) ((shlU (a := 1) (m := l) rfl (by omega)).trans (congrArg (fun z : Nat => (z : Int)) (Nat.one_mul _))))) (by decide) ?_
      refine HL.val (Val.assign rfl) (by decide) ?_
      refine HL.nil ?_
      refine HQ.next ?_
      refine HC.seq ?_
      refine HC.region ?_
      refine HL.val (Val.move rfl) (by decide) ?_
      refine HL.val (Val.move rfl) (by decide) ?_
      refine HL.val ((Val.subI rfl rfl).as (congrArg (Value.int .u64) (subU (a := k) (b := l + 1) rfl hlk (by omega)))) (by decide) ?_
      refine HL.val ((Val.shlI rfl rfl (Int.natCast_nonneg _) (show ((k - (l + 1) : Nat) : Int) ≤ 64 by omega)).as (v := .int .u64 ((2 ^ (k - l - 1) : Nat) : Int)) (congrArg (Value.int .u64) ((shlU (a := 1) (m := k - (l + 1)) rfl (by rw [Nat.one_mul]; have := p2_le hk (show k - (l + 1) ≤ k by omega); omega)).trans (congrArg (fun z : Nat => (z : Int)) (Nat.one_mul _))))) (by decide) ?_
      refine HL.val (Val.assign rfl) (by decide) ?_
      refine HL.nil ?_
      refine HQ.next ?_
      refine HC.seq ?_
      refine HC.seq ?_
      refine HC.region ?_
      refine HL.val (Val.move rfl) (by decide) ?_
      refine HL.val (Val.move rfl) (by decide) ?_
      refine HL.nil ?_
      refine HQ.next ?_
      refine HC.block ?_
      refine HC.loop (ι := {p : Nat // p ≤ 2 ^ (k - l - 1)}) (fun p => 2 ^ (k - l - 1) - p.1) (fun p => [(0, .slice (some ⟨b, o * 2, none⟩) (2 ^ k) c), (8, .int .u64 ((k : Nat) : Int)), (11, .pointer (some ⟨b1, 0, none⟩)), (12, .pointer (some ⟨b2, 0, none⟩)), (13, .pointer (some ⟨b3, 0, none⟩)), (14, .int .u64 ((l + 1 : Nat) : Int)), (15, .int .u64 ((2 ^ l : Nat) : Int)), (16, .int .u64 ((2 ^ (k - l - 1) : Nat) : Int)), (65, .int .u64 ((p.1 : Nat) : Int)), (64, .int .u64 ((2 ^ (k - l - 1) : Nat) : Int))]) (fun p => [(b, .cells (flat fpC (lsT F (mid (gd x) k l 0 p.1) o (2 ^ k) M)) 81 (0, 0)), (b1, .cells (rawC z1) 81 (0, 0)), (b2, .cells (rawC z2) 81 (0, 0)), (b3, .cells (rawC z3) 81 (0, 0))]) ⟨0, Nat.zero_le _⟩ (fun ac wc ha hw => ⟨ha.subS ⟨rfl, rfl, rfl, rfl, rfl, rfl, rfl, rfl, rfl, rfl, trivial⟩, by have h := hw.pick [0, 1, 2, 3] (by simp); dsimp only; rw [lsT_congr (fun e _ => mid_zero (gd x) k l e)]; exact h⟩) ?_
      rintro ⟨j, hj⟩
      dsimp only
      refine HC.seq ?_
      refine HC.region ?_
      by_cases hjl : j < 2 ^ (k - l - 1)
      · refine HL.val (((Val.lss rfl rfl).as (congrArg Value.bool (lssN j ((2 ^ (k - l - 1)))))).as (congrArg Value.bool (decide_eq_true hjl))) (by decide) ?_
        refine HL.nil ?_
        refine HQ.next ?_
        refine HC.seq ?_
        refine HC.yes rfl ?_
        refine HC.skip ?_
        refine HQ.next ?_
        refine HC.seq ?_
        refine HC.block ?_
        refine HC.seq ?_
        refine HC.region ?_
        refine HL.val (Val.move rfl) (by decide) ?_
        refine HL.val (Val.assign rfl) (by decide) ?_
        refine HL.nil ?_
        refine HQ.next ?_
        refine HC.seq ?_
        refine HC.region ?_
        refine HL.val (Val.move rfl) (by decide) ?_
        refine HL.val (Val.move rfl) (by decide) ?_
        have hA := addr_lt (i := 0) hlk (Nat.two_pow_pos l) hjl
        rw [Nat.add_zero] at hA
        have hP := Nat.two_pow_pos l
        have hJ := p2_le hk (show k - l - 1 ≤ k by omega)
        refine HL.val ((Val.shlI rfl rfl (Int.natCast_nonneg _) (show ((l + 1 : Nat) : Int) ≤ 64 by omega)).as (congrArg (Value.int .u64) (shlU (a := j) (m := l + 1) rfl (by omega)))) (by decide) ?_
        refine HL.val (Val.assign rfl) (by decide) ?_
        refine HL.nil ?_
        refine HQ.next ?_
        refine HC.seq ?_
        refine HC.region ?_
        refine HL.val (Val.move rfl) (by decide) ?_
        refine HL.val (Val.move rfl) (by decide) ?_
        refine HL.val (Val.ixSlice (s := 2) (i := (j * 2 ^ (l + 1))) ((o + ((j * 2 ^ (l + 1)))) * 2) rfl rfl Tryd.underlying105 (by kernel_rfl) (by omega) (by omega)) (by decide) ?_
        refine HL.val (Val.load_cells (fpC ((mid (gd x) k l 0 j) ((j * 2 ^ (l + 1))))) rfl (fun w hw => RawAt.cells (locT (T := (mid (gd x) k l 0 j)) 0 rfl (by omega) hM w hw)) Tryd.underlying81 rfl (by kernel_rfl)) (by decide) ?_
        refine HL.new (New.alloc al81) (by decide) ?_
        intro b4 hb4
        refine HL.put 0 rfl (Put.row rfl rfl (by kernel_rfl) (szR _ _) (rawC_one _)) (.inl hb4) ?_
        simp only [List.set_cons_zero]
        refine HL.nil ?_
        refine HQ.next ?_
        refine HC.seq ?_
        refine HC.draw0 9 (by kernel_rfl) (by kernel_rfl) ?_
        simp only [List.take, List.drop]
        refine HV.val (Val.move rfl) (by decide) ?_
        refine HV.val (Val.move rfl) (by decide) ?_
        refine HV.val ((Val.addI rfl rfl).as (congrArg (Value.int .u64) (addU (a := (j * 2 ^ (l + 1))) (b := 0) rfl (by omega)))) (by decide) ?_
        refine HV.val (Val.ixSlice (s := 2) (i := (j * 2 ^ (l + 1))) ((o + ((j * 2 ^ (l + 1)))) * 2) rfl rfl Tryd.underlying105 (by kernel_rfl) (by omega) (by omega)) (by decide) ?_
        refine HV.val (Val.move rfl) (by decide) ?_
        refine HV.val (Val.move rfl) (by decide) ?_
        refine HV.val (Val.move rfl) (by decide) ?_
        refine HV.val ((Val.addI rfl rfl).as (congrArg (Value.int .u64) (addU (a := (j * 2 ^ (l + 1))) (b := 2 ^ l) rfl (by omega)))) (by decide) ?_
        refine HV.val (Val.ixSlice (s := 2) (i := (j * 2 ^ (l + 1) + 2 ^ l)) ((o + ((j * 2 ^ (l + 1) + 2 ^ l))) * 2) rfl rfl Tryd.underlying105 (by kernel_rfl) (by omega) (by omega)) (by decide) ?_
        refine HV.tail0 ?_
        refine HL.callD en79 rfl (fpAddH (dstT (T := (mid (gd x) k l 0 j)) 1 rfl (by omega) hM (ownB b)) (loc1 0 rfl) (mid_lt _ _ _ _ _ _) (locT (T := (mid (gd x) k l 0 j)) 1 rfl (by omega) hM) (mid_lt _ _ _ _ _ _)) (by decide) ?_
        simp only [List.set_cons_zero, List.set_cons_succ]
        refine HL.nil ?_
        refine HQ.next ?_
        refine HC.draw0 10 (by kernel_rfl) (by kernel_rfl) ?_
        simp only [List.take, List.drop]
        refine HV.val (Val.move rfl) (by decide) ?_
        refine HV.val (Val.move rfl) (by decide) ?_
        refine HV.val (Val.move rfl) (by decide) ?_
        refine HV.val ((Val.addI rfl rfl).as (congrArg (Value.int .u64) (addU (a := (j * 2 ^ (l + 1))) (b := 2 ^ l) rfl (by omega)))) (by decide) ?_
        refine HV.val (Val.ixSlice (s := 2) (i := (j * 2 ^ (l + 1) + 2 ^ l)) ((o + ((j * 2 ^ (l + 1) + 2 ^ l))) * 2) rfl rfl Tryd.underlying105 (by kernel_rfl) (by omega) (by omega)) (by decide) ?_
        refine HV.val (Val.move rfl) (by decide) ?_
        refine HV.val (Val.move rfl) (by decide) ?_
        refine HV.val (Val.move rfl) (by decide) ?_
        refine HV.val ((Val.addI rfl rfl).as (congrArg (Value.int .u64) (addU (a := (j * 2 ^ (l + 1))) (b := 2 ^ l) rfl (by omega)))) (by decide) ?_
        refine HV.val (Val.ixSlice (s := 2) (i := (j * 2 ^ (l + 1) + 2 ^ l)) ((o + ((j * 2 ^ (l + 1) + 2 ^ l))) * 2) rfl rfl Tryd.underlying105 (by kernel_rfl) (by omega) (by omega)) (by decide) ?_
        refine HV.tail0 ?_
        refine HL.callD en85 rfl (fpSubH (dstT (T := (upd ((mid (gd x) k l 0 j)) ((j * 2 ^ (l + 1))) (((((mid (gd x) k l 0 j) ((j * 2 ^ (l + 1))))) + (((mid (gd x) k l 0 j) ((j * 2 ^ (l + 1) + 2 ^ l))))) % pf))) 1 rfl (by omega) hM (ownB b)) (loc1 0 rfl) (mid_lt _ _ _ _ _ _) (locT (T := (upd ((mid (gd x) k l 0 j)) ((j * 2 ^ (l + 1))) (((((mid (gd x) k l 0 j) ((j * 2 ^ (l + 1))))) + (((mid (gd x) k l 0 j) ((j * 2 ^ (l + 1) + 2 ^ l))))) % pf))) 1 rfl (by omega) hM) (by rw [upd_ne _ _ (by omega)]; exact mid_lt _ _ _ _ _ _)) (by decide) ?_
        simp only [List.set_cons_zero, List.set_cons_succ]
        refine HL.nil ?_
        refine HQ.blockNormal ?_
        refine HQ.next ?_
        refine HC.region ?_
        refine HL.val ((Val.addI rfl rfl).as (congrArg (Value.int .u64) (addU (a := j) (b := 1) rfl (by omega)))) (by decide) ?_
        refine HL.val (Val.move rfl) (by decide) ?_
        refine HL.nil ?_
        exact ⟨fun ac wc ha hw => ⟨⟨j + 1, hjl⟩, by dsimp only; omega, ha.subS ⟨rfl, rfl, rfl, rfl, rfl, rfl, rfl, rfl, rfl, rfl, trivial⟩, by have h := hw.pick [1, 2, 3, 4] (by simp); simp only [List.filterMap_cons, List.filterMap_nil, List.getElem?_cons_zero, List.getElem?_cons_succ] at h; rw [lsT_congr (T := (upd ((upd ((mid (gd x) k l 0 j)) ((j * 2 ^ (l + 1))) (((((mid (gd x) k l 0 j) ((j * 2 ^ (l + 1))))) + (((mid (gd x) k l 0 j) ((j * 2 ^ (l + 1) + 2 ^ l))))) % pf))) ((j * 2 ^ (l + 1) + 2 ^ l)) (subF (((mid (gd x) k l 0 j) ((j * 2 ^ (l + 1))))) (((upd ((mid (gd x) k l 0 j)) ((j * 2 ^ (l + 1))) (((((mid (gd x) k l 0 j) ((j * 2 ^ (l + 1))))) + (((mid (gd x) k l 0 j) ((j * 2 ^ (l + 1) + 2 ^ l))))) % pf)) ((j * 2 ^ (l + 1) + 2 ^ l))))))) (T' := mid (gd x) k l 0 (j + 1)) (fun e _ => mid_step0 (gd x) hlk (by omega) rfl (by rw [upd_ne _ _ (by omega)]) e)] at h; exact h⟩⟩
      · refine HL.val (((Val.lss rfl rfl).as (congrArg Value.bool (lssN j ((2 ^ (k - l - 1)))))).as (congrArg Value.bool (decide_eq_false hjl))) (by decide) ?_
        refine HL.nil ?_
        refine HQ.next ?_
        refine HC.seq ?_
        refine HC.no rfl ?_
        refine HC.exit ?_
        refine HQ.thenExit ?_
        refine HQ.thenExit ?_
        refine HQ.blockExit ?_
        refine HQ.next ?_
        refine HC.seq ?_
        refine HC.region ?_
        refine HL.callD en89 rfl (fun w hw => lift_one hw (i := 2) rfl (.inl hb2) (setOne_any (ht.sn hw.sn (beq_false_of_ne hbT)) (hw.at (i := 2) rfl) (Nat.ne_of_lt (Nat.lt_of_lt_of_le ht.lt hb2)) (Nat.le_refl _))) (by decide) ?_
        simp only [List.set_cons_zero, List.set_cons_succ]
        refine HL.nil ?_
        refine HQ.next ?_
        refine HC.seq ?_
        refine HC.region ?_
        refine HL.val (Val.move rfl) (by decide) ?_
        refine HL.callD en68 rfl (fun w hw => lift_one hw (i := 3) rfl (.inl hb3) (setRoot_any (i := l + 1) (ht.sn hw.sn (beq_false_of_ne hbT)) (hw.at (i := 3) rfl) (Nat.ne_of_lt (Nat.lt_of_lt_of_le ht.lt hb3)) (Nat.le_refl _) (by omega))) (by decide) ?_
        simp only [List.set_cons_zero, List.set_cons_succ]
        refine HL.nil ?_
        refine HQ.next ?_
        refine HC.seq ?_
        refine HC.region ?_
        refine HL.val (Val.assign rfl) (by decide) ?_
        refine HL.nil ?_
        refine HQ.next ?_
        refine HC.block ?_
        obtain rfl : j = 2 ^ (k - l - 1) := by omega
        refine HC.loop (ι := {p : Nat × Nat // 1 ≤ p.1 ∧ p.1 ≤ 2 ^ l}) (fun p => 2 ^ l - p.1.1) (fun p => [(0, .slice (some ⟨b, o * 2, none⟩) (2 ^ k) c), (8, .int .u64 ((k : Nat) : Int)), (11, .pointer (some ⟨b1, 0, none⟩)), (12, .pointer (some ⟨b2, 0, none⟩)), (13, .pointer (some ⟨b3, 0, none⟩)), (14, .int .u64 ((l + 1 : Nat) : Int)), (15, .int .u64 ((2 ^ l : Nat) : Int)), (16, .int .u64 ((2 ^ (k - l - 1) : Nat) : Int)), (20, .int .u64 ((p.1.1 : Nat) : Int))]) (fun p => [(b, .cells (flat fpC (lsT F (mid (gd x) k l p.1.1 0) o (2 ^ k) M)) 81 (0, 0)), (b1, .cells (rawC p.1.2) 81 (0, 0)), (b2, .cells (fpC (rt (l + 1) ^ (p.1.1 - 1) % pf)) 81 (0, 0)), (b3, .cells (fpC (rt (l + 1))) 81 (0, 0))]) ⟨(1, z1), Nat.le_refl _, Nat.two_pow_pos l⟩ (fun ac wc ha hw => ⟨ha.subS ⟨rfl, rfl, rfl, rfl, rfl, rfl, rfl, rfl, rfl, trivial⟩, by have h := hw.pick [0, 1, 2, 3] (by simp); simp only [List.filterMap_cons, List.filterMap_nil, List.getElem?_cons_zero, List.getElem?_cons_succ] at h; rw [lsT_congr (fun e he => mid_row (gd x) hlk he), rt_0] at h; dsimp only; rw [Nat.sub_self, Nat.pow_zero, Nat.mod_eq_of_lt one_lt]; exact h⟩) ?_
        rintro ⟨⟨i, z4⟩, h1i, hi⟩
        dsimp only at h1i hi ⊢
        refine HC.seq ?_
        refine HC.seq ?_
        refine HC.region ?_
        refine HL.val (Val.move rfl) (by decide) ?_
        refine HL.val (Val.move rfl) (by decide) ?_
        by_cases hil : i < 2 ^ l
        · refine HL.val (((Val.lss rfl rfl).as (congrArg Value.bool (lssN i ((2 ^ l))))).as (congrArg Value.bool (decide_eq_true hil))) (by decide) ?_
          refine HL.nil ?_
          refine HQ.next ?_
          refine HC.yes rfl ?_
          refine HC.skip ?_
          refine HQ.next ?_
          refine HC.seq ?_
          refine HC.block ?_
          refine HC.seq ?_
          refine HC.region ?_
          refine HL.callD en111 rfl (dst_eq (pow_next (rt (l + 1)) i h1i) (fpMulAssignH (dstf1 2 rfl (.inl hb2)) (loc1 2 rfl) (Nat.mod_lt _ pf_pos) (loc1 3 rfl) (rt_lt (by omega)))) (by decide) ?_
          simp only [List.set_cons_zero, List.set_cons_succ]
          refine HL.nil ?_
          refine HQ.next ?_
          refine HC.seq ?_
          refine HC.region ?_
          refine HL.val (Val.move rfl) (by decide) ?_
          refine HL.val (Val.move rfl) (by decide) ?_
          refine HL.nil ?_
          refine HQ.next ?_
          refine HC.block ?_
          refine HC.loop (ι := {p : Nat × Nat // p.1 ≤ 2 ^ (k - l - 1)}) (fun p => 2 ^ (k - l - 1) - p.1.1) (fun p => [(0, .slice (some ⟨b, o * 2, none⟩) (2 ^ k) c), (8, .int .u64 ((k : Nat) : Int)), (11, .pointer (some ⟨b1, 0, none⟩)), (12, .pointer (some ⟨b2, 0, none⟩)), (13, .pointer (some ⟨b3, 0, none⟩)), (14, .int .u64 ((l + 1 : Nat) : Int)), (15, .int .u64 ((2 ^ l : Nat) : Int)), (16, .int .u64 ((2 ^ (k - l - 1) : Nat) : Int)), (20, .int .u64 ((i : Nat) : Int)), (107, .int .u64 ((p.1.1 : Nat) : Int)), (106, .int .u64 ((2 ^ (k - l - 1) : Nat) : Int))]) (fun p => [(b, .cells (flat fpC (lsT F (mid (gd x) k l i p.1.1) o (2 ^ k) M)) 81 (0, 0)), (b1, .cells (rawC p.1.2) 81 (0, 0)), (b2, .cells (fpC (rt (l + 1) ^ i % pf)) 81 (0, 0)), (b3, .cells (fpC (rt (l + 1))) 81 (0, 0))]) ⟨(0, z4), Nat.zero_le _⟩ (fun ac wc ha hw => ⟨ha.subS ⟨rfl, rfl, rfl, rfl, rfl, rfl, rfl, rfl, rfl, rfl, rfl, trivial⟩, hw.pick [0, 1, 2, 3] (by simp)⟩) ?_
          rintro ⟨⟨j, z5⟩, hj⟩
          dsimp only at hj ⊢
          refine HC.seq ?_
          refine HC.region ?_
          by_cases hjl : j < 2 ^ (k - l - 1)
          · refine HL.val (((Val.lss rfl rfl).as (congrArg Value.bool (lssN j ((2 ^ (k - l - 1)))))).as (congrArg Value.bool (decide_eq_true hjl))) (by decide) ?_
            refine HL.nil ?_
            refine HQ.next ?_
            refine HC.seq ?_
            refine HC.yes rfl ?_
            refine HC.skip ?_
            refine HQ.next ?_
            refine HC.seq ?_
            refine HC.block ?_
            refine HC.seq ?_
            refine HC.region ?_
            refine HL.val (Val.move rfl) (by decide) ?_
            refine HL.val (Val.assign rfl) (by decide) ?_
            refine HL.nil ?_
            refine HQ.next ?_
            refine HC.seq ?_
            refine HC.region ?_
            refine HL.val (Val.move rfl) (by decide) ?_
            refine HL.val (Val.move rfl) (by decide) ?_
            have hA := addr_lt hlk hil hjl
            have hP := Nat.two_pow_pos l
            have hJ := p2_le hk (show k - l - 1 ≤ k by omega)
            refine HL.val ((Val.shlI rfl rfl (Int.natCast_nonneg _) (show ((l + 1 : Nat) : Int) ≤ 64 by omega)).as (congrArg (Value.int .u64) (shlU (a := j) (m := l + 1) rfl (by omega)))) (by decide) ?_
            refine HL.val (Val.move rfl) (by decide) ?_
            refine HL.val ((Val.addI rfl rfl).as (congrArg (Value.int .u64) (addU (a := j * 2 ^ (l + 1)) (b := i) rfl (by omega)))) (by decide) ?_
            refine HL.val (Val.assign rfl) (by decide) ?_
            refine HL.nil ?_
            refine HQ.next ?_
            refine HC.seq ?_
            refine HC.region ?_
            refine HL.val (Val.move rfl) (by decide) ?_
            refine HL.val (Val.move rfl) (by decide) ?_
            refine HL.val (Val.ixSlice (s := 2) (i := (j * 2 ^ (l + 1) + i)) ((o + ((j * 2 ^ (l + 1) + i))) * 2) rfl rfl Tryd.underlying105 (by kernel_rfl) (by omega) (by omega)) (by decide) ?_
            refine HL.val (Val.load_cells (fpC ((mid (gd x) k l i j) ((j * 2 ^ (l + 1) + i)))) rfl (fun w hw => RawAt.cells (locT (T := (mid (gd x) k l i j)) 0 rfl (by omega) hM w hw)) Tryd.underlying81 rfl (by kernel_rfl)) (by decide) ?_
            refine HL.new (New.alloc al81) (by decide) ?_
            intro b4 hb4
            refine HL.put 0 rfl (Put.row rfl rfl (by kernel_rfl) (szR _ _) (rawC_one _)) (.inl hb4) ?_
            simp only [List.set_cons_zero]
            refine HL.nil ?_
            refine HQ.next ?_
            refine HC.seq ?_
            refine HC.region ?_
            refine HL.val (Val.move rfl) (by decide) ?_
            refine HL.val (Val.move rfl) (by decide) ?_
            refine HL.val (Val.move rfl) (by decide) ?_
            refine HL.val ((Val.addI rfl rfl).as (congrArg (Value.int .u64) (addU (a := (j * 2 ^ (l + 1) + i)) (b := 2 ^ l) rfl (by omega)))) (by decide) ?_
            refine HL.val (Val.ixSlice (s := 2) (i := (j * 2 ^ (l + 1) + i + 2 ^ l)) ((o + ((j * 2 ^ (l + 1) + i + 2 ^ l))) * 2) rfl rfl Tryd.underlying105 (by kernel_rfl) (by omega) (by omega)) (by decide) ?_
            refine HL.callD en80 rfl (fpMulH (dstf1 2 rfl (.inl hb1)) (loc1 3 rfl) (Nat.mod_lt _ pf_pos) (locT (T := (mid (gd x) k l i j)) 1 rfl (by omega) hM) (mid_lt _ _ _ _ _ _)) (by decide) ?_
            simp only [List.set_cons_zero, List.set_cons_succ]
            refine HL.nil ?_
            refine HQ.next ?_
            refine HC.seq ?_
            refine HC.region ?_
            refine HL.val (Val.move rfl) (by decide) ?_
            refine HL.val (Val.move rfl) (by decide) ?_
            refine HL.val ((Val.addI rfl rfl).as (congrArg (Value.int .u64) (addU (a := (j * 2 ^ (l + 1) + i)) (b := 0) rfl (by omega)))) (by decide) ?_
            refine HL.val (Val.ixSlice (s := 2) (i := (j * 2 ^ (l + 1) + i)) ((o + ((j * 2 ^ (l + 1) + i))) * 2) rfl rfl Tryd.underlying105 (by kernel_rfl) (by omega) (by omega)) (by decide) ?_
            refine HL.callD en79 rfl (fpAddH (dstT (T := (mid (gd x) k l i j)) 1 rfl (by omega) hM (ownB b)) (loc1 0 rfl) (mid_lt _ _ _ _ _ _) (loc1 2 rfl) (Nat.mod_lt _ pf_pos)) (by decide) ?_
            simp only [List.set_cons_zero, List.set_cons_succ]
            refine HL.nil ?_
            refine HQ.next ?_
            refine HC.region ?_
            refine HL.val (Val.move rfl) (by decide) ?_
            refine HL.val (Val.move rfl) (by decide) ?_
            refine HL.val (Val.move rfl) (by decide) ?_
            refine HL.val ((Val.addI rfl rfl).as (congrArg (Value.int .u64) (addU (a := (j * 2 ^ (l + 1) + i)) (b := 2 ^ l) rfl (by omega)))) (by decide) ?_
            refine HL.val (Val.ixSlice (s := 2) (i := (j * 2 ^ (l + 1) + i + 2 ^ l)) ((o + ((j * 2 ^ (l + 1) + i + 2 ^ l))) * 2) rfl rfl Tryd.underlying105 (by kernel_rfl) (by omega) (by omega)) (by decide) ?_
            refine HL.callD en85 rfl (fpSubH (dstT (T := (upd ((mid (gd x) k l i j)) ((j * 2 ^ (l + 1) + i)) (((((mid (gd x) k l i j) ((j * 2 ^ (l + 1) + i)))) + ((((rt (l + 1) ^ i % pf)) * (((mid (gd x) k l i j) ((j * 2 ^ (l + 1) + i + 2 ^ l)))) % pf))) % pf))) 1 rfl (by omega) hM (ownB b)) (loc1 0 rfl) (mid_lt _ _ _ _ _ _) (loc1 2 rfl) (Nat.mod_lt _ pf_pos)) (by decide) ?_
            simp only [List.set_cons_zero, List.set_cons_succ]
            refine HL.nil ?_
            refine HQ.blockNormal ?_
            refine HQ.next ?_
            refine HC.region ?_
            refine HL.val ((Val.addI rfl rfl).as (congrArg (Value.int .u64) (addU (a := j) (b := 1) rfl (by omega)))) (by decide) ?_
            refine HL.val (Val.move rfl) (by decide) ?_
            refine HL.nil ?_
            exact ⟨fun ac wc ha hw => ⟨⟨(j + 1, mont (rt (l + 1) ^ i % pf * (mid (gd x) k l i j) (j * 2 ^ (l + 1) + i + 2 ^ l) % pf)), hjl⟩, by dsimp only; omega, ha.subS ⟨rfl, rfl, rfl, rfl, rfl, rfl, rfl, rfl, rfl, rfl, rfl, trivial⟩, by have h := hw.pick [1, 2, 3, 4] (by simp); simp only [List.filterMap_cons, List.filterMap_nil, List.getElem?_cons_zero, List.getElem?_cons_succ] at h; rw [lsT_congr (T := (upd ((upd ((mid (gd x) k l i j)) ((j * 2 ^ (l + 1) + i)) (((((mid (gd x) k l i j) ((j * 2 ^ (l + 1) + i)))) + ((((rt (l + 1) ^ i % pf)) * (((mid (gd x) k l i j) ((j * 2 ^ (l + 1) + i + 2 ^ l)))) % pf))) % pf))) ((j * 2 ^ (l + 1) + i + 2 ^ l)) (subF (((mid (gd x) k l i j) ((j * 2 ^ (l + 1) + i)))) ((((rt (l + 1) ^ i % pf)) * (((mid (gd x) k l i j) ((j * 2 ^ (l + 1) + i + 2 ^ l)))) % pf))))) (T' := mid (gd x) k l i (j + 1)) (fun e _ => mid_stepI (gd x) hlk (by omega) hil rfl rfl e)] at h; exact h⟩⟩
          · refine HL.val (((Val.lss rfl rfl).as (congrArg Value.bool (lssN j ((2 ^ (k - l - 1)))))).as (congrArg Value.bool (decide_eq_false hjl))) (by decide) ?_
            refine HL.nil ?_
            refine HQ.next ?_
            refine HC.seq ?_
            refine HC.no rfl ?_
            refine HC.exit ?_
            refine HQ.thenExit ?_
            refine HQ.thenExit ?_
            refine HQ.blockExit ?_
            refine HQ.blockNormal ?_
            refine HQ.next ?_
            refine HC.region ?_
            refine HL.val (Val.move rfl) (by decide) ?_
            refine HL.val ((Val.addI rfl rfl).as (congrArg (Value.int .u64) (addU (a := i) (b := 1) rfl (by omega)))) (by decide) ?_
            refine HL.val (Val.assign rfl) (by decide) ?_
            refine HL.nil ?_
            obtain rfl : j = 2 ^ (k - l - 1) := by omega
            exact ⟨fun ac wc ha hw => ⟨⟨(i + 1, z5), by dsimp only; omega⟩, by dsimp only; omega, ha.subS ⟨rfl, rfl, rfl, rfl, rfl, rfl, rfl, rfl, rfl, trivial⟩, by have h := hw.pick [0, 1, 2, 3] (by simp); simp only [List.filterMap_cons, List.filterMap_nil, List.getElem?_cons_zero, List.getElem?_cons_succ] at h; rw [lsT_congr (fun e he => mid_row (gd x) hlk he)] at h; exact h⟩⟩
        · refine HL.val (((Val.lss rfl rfl).as (congrArg Value.bool (lssN i ((2 ^ l))))).as (congrArg Value.bool (decide_eq_false hil))) (by decide) ?_
          refine HL.nil ?_
          refine HQ.next ?_
          refine HC.no rfl ?_
          refine HC.exit ?_
          refine HQ.thenExit ?_
          refine HQ.thenExit ?_
          refine HQ.blockExit ?_
          refine HQ.blockNormal ?_
          refine HQ.next ?_
          refine HC.region ?_
          refine HL.val (Val.move rfl) (by decide) ?_
          refine HL.val ((Val.addI rfl rfl).as (congrArg (Value.int .u64) (addU (a := l + 1) (b := 1) rfl (by omega)))) (by decide) ?_
          refine HL.val (Val.assign rfl) (by decide) ?_
          refine HL.nil ?_
          obtain rfl : i = 2 ^ l := by omega
          exact ⟨fun ac wc ha hw => ⟨⟨(l + 1, z4, mont (rt (l + 1) ^ (2 ^ l - 1) % pf), mont (rt (l + 1))), hlk⟩, by dsimp only; omega, ha.subS ⟨rfl, rfl, rfl, rfl, rfl, rfl, trivial⟩, by have h := hw.pick [0, 1, 2, 3] (by simp); simp only [List.filterMap_cons, List.filterMap_nil, List.getElem?_cons_zero, List.getElem?_cons_succ] at h; rw [lsT_congr (fun e _ => mid_end (gd x) k l e)] at h; exact h⟩⟩
    · refine HL.val ((Val.leq rfl rfl).as (congrArg Value.bool ((leqU (l + 1) k).trans (decide_eq_false hlk)))) (by decide) ?_
      refine HL.nil ?_
      refine HQ.next ?_
      refine HC.no rfl ?_
      refine HC.exit ?_
      refine HQ.thenExit ?_
      refine HQ.thenExit ?_
      refine HQ.blockExit ?_
      obtain rfl : l = k := by omega
      exact HQ.end0 rfl (fun w hw => ⟨rfl, by have h := hw.pick [0] (by simp); simp only [List.filterMap_cons, List.filterMap_nil, List.getElem?_cons_zero] at h; rw [lsT_congr (fun e he => stage_end rt (gd x) he)] at h; exact h⟩)
end Go.Proofs.YtgdfdkpkhjbibaaDoor
