
/-
  spec.Small, spec.product, spec.Mul.
-/
import Derived.Test.YteehdjkmjncehaaDoorSadd
namespace Go.Proofs.YteehdjkmjncehaaDoor
open Go.RowKit
theorem dig_small (n i : Nat) (h : n < 4294967296) : dig n i = if i = 0 then n % 65536 else if i = 1 then n / 65536 else 0 := by
  unfold dig
  rcases (show i = 0 ∨ i = 1 ∨ 2 ≤ i by omega) with rfl | rfl | h2
  · simp
  · simp; omega
  · rw [if_neg (by omega), if_neg (by omega), Nat.div_eq_of_lt]
    exact Nat.lt_of_lt_of_le h (Nat.le_trans (by decide : 4294967296 ≤ 65536 ^ 2) (Nat.pow_le_pow_right (by decide) h2))
set_option maxRecDepth 100000 in
set_option maxHeartbeats 1600000 in
theorem small35 (n : Nat) (h : n < 4294967296) : Pure Tryd.prog 35 #[.int .i64 (n : Int)] (nV n) := by
  intro w
  unfold nV dgV
  have hu := Tryd.underlying25
  have hi : ∀ f, (Tryd.prog.info? 25).map (·.size) = some (dgA 16 f).size := by intro f; rw [dgA_size]; kernel_rfl
  have hd : ∀ C : Array Value, C = #[Value.int IntKind.u64 ((n : Int) % 65536), Value.int IntKind.u64 ((n : Int) / 65536), Value.int IntKind.u64 0, Value.int IntKind.u64 0, Value.int IntKind.u64 0, Value.int IntKind.u64 0, Value.int IntKind.u64 0, Value.int IntKind.u64 0, Value.int IntKind.u64 0, Value.int IntKind.u64 0, Value.int IntKind.u64 0, Value.int IntKind.u64 0, Value.int IntKind.u64 0, Value.int IntKind.u64 0, Value.int IntKind.u64 0, Value.int IntKind.u64 0] → C = dgA 16 (dig n) := by
    rintro C rfl
    rw [dgA_congr (fun i _ => dig_small n i h)]
    rfl
  have HD := Lib.hid hd
  clear hd
  go_enter Tryd.func35, Tryd.ntmps35
  go_wp2_with fail
  (try simp only [Exit.inBlock, Exit.then])
  refine bodyPost_ret (results_cell_row rfl _ _ _ _ _ _ _ rfl (heap_alloc_new _ _) hu rfl (by kernel_rfl)) rfl ?_
  exact ⟨by rw [HD.out _ rfl], (Below.refl _ _).alloc (Nat.le_refl _) _⟩
/-- A row of a product: k places of it. -/
def prow (a b i k m : Nat) : Nat := if i ≤ m ∧ m < i + k then dig a i * dig b (m - i) else 0
/-- The first i rows. -/
def psum (a b : Nat) : Nat → Nat → Nat
  | 0, _ => 0
  | i + 1, m => psum a b i m + prow a b i 16 m
theorem prow_le (a b i k m : Nat) : prow a b i k m ≤ 4294836225 := by
  unfold prow
  split
  · exact Nat.mul_le_mul (Nat.le_of_lt_succ (dig_lt a i)) (Nat.le_of_lt_succ (dig_lt b (m - i)))
  · omega
theorem psum_le (a b m : Nat) : ∀ i, psum a b i m ≤ i * 4294836225
  | 0 => by simp [psum]
  | i + 1 => by have := psum_le a b m i; have := prow_le a b i 16 m; unfold psum; omega
theorem prow_zero (a b i m : Nat) : prow a b i 0 m = 0 := by unfold prow; rw [if_neg (by omega)]
theorem prow_step (a b i k m : Nat) : upd (fun m => psum a b i m + prow a b i k m) (i + k) (psum a b i (i + k) + prow a b i k (i + k) + dig a i * dig b k) m = psum a b i m + prow a b i (k + 1) m := by
  unfold upd
  by_cases h : m = i + k
  · subst h
    have e1 : prow a b i k (i + k) = 0 := by unfold prow; rw [if_neg (by omega)]
    have e2 : prow a b i (k + 1) (i + k) = dig a i * dig b k := by unfold prow; rw [if_pos (by omega), Nat.add_sub_cancel_left]
    rw [if_pos rfl, e1, e2]; omega
  · rw [if_neg h]
    dsimp only
    unfold prow
    by_cases h2 : i ≤ m ∧ m < i + k
    · rw [if_pos h2, if_pos (by omega)]
    · rw [if_neg h2, if_neg (by omega)]
theorem sumF_upd (f : Nat → Nat) (j c : Nat) : ∀ n, j < n → sumF (upd f j (f j + c)) n = sumF f n + c * 65536 ^ j
  | 0, h => by omega
  | n + 1, h => by
    rcases (show j < n ∨ j = n by omega) with h2 | rfl
    · have e : upd f j (f j + c) n = f n := by unfold upd; rw [if_neg (by omega)]
      rw [sumF, sumF, sumF_upd f j c n h2, e]; omega
    · have e : upd f j (f j + c) j = f j + c := by unfold upd; rw [if_pos rfl]
      rw [sumF, sumF, e, Nat.add_mul, sumF_congr (g := f) (fun i hi => by unfold upd; rw [if_neg (by omega)])]; omega
theorem prow_upd (a b i k m : Nat) : upd (prow a b i k) (i + k) (prow a b i k (i + k) + dig a i * dig b k) m = prow a b i (k + 1) m := by
  unfold upd
  by_cases h : m = i + k
  · subst h
    have e1 : prow a b i k (i + k) = 0 := by unfold prow; rw [if_neg (by omega)]
    have e2 : prow a b i (k + 1) (i + k) = dig a i * dig b k := by unfold prow; rw [if_pos (by omega), Nat.add_sub_cancel_left]
    rw [if_pos rfl, e1, e2]; omega
  · rw [if_neg h]
    unfold prow
    by_cases h2 : i ≤ m ∧ m < i + k
    · rw [if_pos h2, if_pos (by omega)]
    · rw [if_neg h2, if_neg (by omega)]
theorem sum_prow (a b i n : Nat) : ∀ k, i + k ≤ n → sumF (prow a b i k) n = dig a i * 65536 ^ i * sumF (dig b) k
  | 0, _ => by
    have e : ∀ n, sumF (fun _ => 0) n = 0 := fun n => by induction n with
      | zero => rfl
      | succ n ih => rw [sumF, ih]; omega
    rw [sumF_congr (g := fun _ => 0) (fun m _ => prow_zero a b i m), e]; simp [sumF]
  | k + 1, h => by
    rw [← sumF_congr (fun m _ => prow_upd a b i k m), sumF_upd _ _ _ n (by omega), sum_prow a b i n k (by omega)]
    simp only [sumF, Nat.pow_add]
    grind
theorem sum_psum (a b : Nat) : ∀ i, i ≤ 16 → sumF (psum a b i) 32 = sumF (dig a) i * sumF (dig b) 16
  | 0, _ => by
    have e : ∀ n, sumF (psum a b 0) n = 0 := fun n => by induction n with
      | zero => rfl
      | succ n ih => rw [sumF, ih]; simp [psum]
    rw [e]; simp [sumF]
  | i + 1, h => by
    have e : sumF (psum a b (i + 1)) 32 = sumF (fun m => psum a b i m + prow a b i 16 m) 32 := rfl
    rw [e, sumF_add, sum_psum a b i (by omega), sum_prow a b i 32 16 (by omega)]
    simp only [sumF]
    grind
theorem sumF_split (f : Nat → Nat) (k : Nat) : ∀ n, sumF f (k + n) = sumF f k + 65536 ^ k * sumF (fun i => f (i + k)) n
  | 0 => by simp [sumF]
  | n + 1 => by
    rw [← Nat.add_assoc, sumF, sumF_split f k n, sumF, Nat.pow_add, Nat.add_comm n k]
    grind
theorem sumF_mul (c : Nat) (f : Nat → Nat) : ∀ n, sumF (fun i => c * f i) n = c * sumF f n
  | 0 => rfl
  | n + 1 => by simp only [sumF, sumF_mul c f n]; grind
theorem mul_digits (a b : Nat) (ha : a < 2 ^ 256) (hb : b < 2 ^ 256) : sumF (fun i => psum a b 16 i + 38 * psum a b 16 (i + 16)) 16 % p25 = a * b % p25 := by
  have h := sum_psum a b 16 (Nat.le_refl _)
  rw [sum_dig16 ha, sum_dig16 hb, sumF_split _ 16 16] at h
  rw [sumF_add, sumF_mul 38 (fun i => psum a b 16 (i + 16)), ← h]
  generalize sumF (psum a b 16) 16 = x
  generalize sumF (fun i => psum a b 16 (i + 16)) 16 = y
  have e : 65536 ^ 16 = 2 * p25 + 38 := by decide +kernel
  rw [e, Nat.add_mul, ← Nat.add_assoc, Nat.add_right_comm, Nat.mul_assoc, Nat.mul_comm 2, Nat.mul_assoc, Nat.add_mul_mod_self_left]
theorem zeros32 : dgA 32 (fun _ => 0) = #[Value.int IntKind.u64 0, Value.int IntKind.u64 0, Value.int IntKind.u64 0, Value.int IntKind.u64 0, Value.int IntKind.u64 0, Value.int IntKind.u64 0, Value.int IntKind.u64 0, Value.int IntKind.u64 0, Value.int IntKind.u64 0, Value.int IntKind.u64 0, Value.int IntKind.u64 0, Value.int IntKind.u64 0, Value.int IntKind.u64 0, Value.int IntKind.u64 0, Value.int IntKind.u64 0, Value.int IntKind.u64 0, Value.int IntKind.u64 0, Value.int IntKind.u64 0, Value.int IntKind.u64 0, Value.int IntKind.u64 0, Value.int IntKind.u64 0, Value.int IntKind.u64 0, Value.int IntKind.u64 0, Value.int IntKind.u64 0, Value.int IntKind.u64 0, Value.int IntKind.u64 0, Value.int IntKind.u64 0, Value.int IntKind.u64 0, Value.int IntKind.u64 0, Value.int IntKind.u64 0, Value.int IntKind.u64 0, Value.int IntKind.u64 0] := rfl
set_option maxRecDepth 100000 in
set_option maxHeartbeats 1600000 in
theorem product55 (a b : Nat) : Pure Tryd.prog 54 #[nV a, nV b] (dgV 32 (psum a b 16)) := by
  intro w
  unfold nV dgV
  have hu := Tryd.underlying25
  have hu2 := Tryd.underlying60
  have hi : ∀ f, (Tryd.prog.info? 25).map (·.size) = some (dgA 16 f).size := by intro f; rw [dgA_size]; kernel_rfl
  have hi2 : ∀ f, (Tryd.prog.info? 60).map (·.size) = some (dgA 32 f).size := by intro f; rw [dgA_size]; kernel_rfl
  go_enter Tryd.func54, Tryd.ntmps54
  go_wp2_with (first
    | (refine wpList_store_row (o := ⟨none, .store 60 _ _, _, _, _, _⟩) rfl 60 _ _ rfl (w.heap.size + 1 + 1 + 1) (dgA 32 (fun _ => 0)) rfl rfl _ _ (new4_3 _ _ _ _ _) (hi2 _) rfl (dgA_one _ _) ?_)
    | (refine wpList_load_row (o := ⟨some 11, _, _, _, _, _⟩) rfl 25 _ rfl w.heap.size rfl _ (dgA 16 (dig a)) _ _ (by rw [setRow_other _ _ _ _ (by omega)]; exact new4_0 w _ _ _ _) hu rfl (hi _) ?_))
  generalize hw0 : World.setRow _ _ _ = w0
  have hB : DgAt w0 (w.heap.size + 1) 16 25 (dig b) := by subst hw0; unfold DgAt; rw [setRow_other _ _ _ _ (by omega)]; exact new4_1 w _ _ _ _
  have hR : DgAt w0 (w.heap.size + 1 + 1) 32 60 (fun _ => 0) := by subst hw0; unfold DgAt; rw [setRow_other _ _ _ _ (by omega)]; exact new4_2 w _ _ _ _
  have hO : DgAt w0 (w.heap.size + 1 + 1 + 1) 32 60 (fun _ => 0) := by subst hw0; exact setRow_heap _ _ _ _ _ _ (new4_3 w _ _ _ _)
  have hL : Below w.heap.size w w0 := by subst hw0; exact (below4 w _ _ _ _).trans ((only_setRow _ _ _).below (by omega) (by simp; omega))
  clear hw0
  obtain ⟨n, hn⟩ : ∃ n, w.heap.size = n := ⟨_, rfl⟩
  have HN := Lib.hid hn
  rw [hn] at hB hR hO hL ⊢
  clear hn
  go_loopw [12] (fun i wr => ∃ k : Nat, k ≤ 16 ∧ i = .int .i64 k ∧ DgAt wr (n + 1) 16 25 (dig b) ∧ DgAt wr (n + 1 + 1) 32 60 (fun _ => 0) ∧ DgAt wr (n + 1 + 1 + 1) 32 60 (psum a b k) ∧ Below n w wr) (fun i _ => 16 - (intOf i).toNat)
  case atStart => exact ⟨0, by omega, rfl, hB, hR, hO, hL⟩
  case round =>
    clear hB hR hO hL
    obtain ⟨k, hk, rfl, hB, hR, hO, hL⟩ := hrel
    rcases (show k < 16 ∨ k = 16 by omega) with hlt | rfl
    · have hix : (Instr.index 25 (.agg (dgA 16 (dig a))) (.int .i64 (k : Int))).run Tryd.prog wr = .ok (.int .u64 (dig a k : Nat)) wr := run_index_one hu Tryd.underlying23 (by kernel_rfl) hlt (dgA_get hlt) wr
      have dA := dig_lt a k
      have HB := Lib.hid hB
      have HR := Lib.hid hR
      have HO := Lib.hid hO
      have HL := Lib.hid hL
      clear hB hR hO hL
      obtain ⟨x, hx⟩ : ∃ x, dig a k = x := ⟨_, rfl⟩
      rw [hx] at hix dA
      have HX := Lib.hid hx
      clear hx
      go_wp2_with (first
        | (refine wpList_load_row (o := ⟨some 16, _, _, _, _, _⟩) rfl 25 _ rfl _ rfl _ _ _ _ HB.out hu rfl (hi _) ?_))
      go_loopw [17] (fun i ws => ∃ j : Nat, j ≤ 16 ∧ i = .int .i64 j ∧ DgAt ws (n + 1) 16 25 (dig b) ∧ DgAt ws (n + 1 + 1) 32 60 (fun _ => 0) ∧ DgAt ws (n + 1 + 1 + 1) 32 60 (fun m => psum a b k m + prow a b k j m) ∧ Below n w ws) (fun i _ => 16 - (intOf i).toNat)
      case atStart => exact ⟨0, by omega, rfl, HB.out, HR.out, HO.out.congr (fun m _ => by rw [prow_zero]; rfl), HL.out⟩
      case round =>
        clear HB HR HO HL hix
        obtain ⟨j, hj, rfl, hB, hR, hO, hL⟩ := hrel
        rcases (show j < 16 ∨ j = 16 by omega) with hjt | rfl
        · have hix2 : (Instr.index 25 (.agg (dgA 16 (dig b))) (.int .i64 (j : Int))).run Tryd.prog wr = .ok (.int .u64 (dig b j : Nat)) wr := run_index_one hu Tryd.underlying23 (by kernel_rfl) hjt (dgA_get hjt) wr
          have dB := dig_lt b j
          have cO : wr.cell? ⟨n + 1 + 1 + 1, k + j, none⟩ = some (.int .u64 ((psum a b k (k + j) + prow a b k j (k + j) : Nat) : Int)) := hO.cell (by omega)
          have fO : wr.frozen? ⟨n + 1 + 1 + 1, k + j, none⟩ = false := hO.frozen _
          have dO : psum a b k (k + j) + prow a b k j (k + j) < 80000000000 := by
            have h1 := psum_le a b (k + j) k
            have h2 := prow_le a b k j (k + j)
            omega
          have hst := prow_step a b k j
          rw [HX.out] at hst
          have HS := Lib.hid hst
          have HB := Lib.hid hB
          have HR := Lib.hid hR
          have HO := Lib.hid hO
          have HL := Lib.hid hL
          clear hB hR hO hL hst
          generalize hs0 : psum a b k (k + j) + prow a b k j (k + j) = s0 at *
          obtain ⟨y, hy⟩ : ∃ y, dig b j = y := ⟨_, rfl⟩
          rw [hy] at hix2 dB
          rw [hy] at HS
          have HY := Lib.hid hy
          have hxy : x * y < 4294967296 := Nat.lt_of_le_of_lt (Nat.mul_le_mul (Nat.le_of_lt_succ dA) (Nat.le_of_lt_succ dB)) (by decide)
          have HXY := Lib.hid hxy
          clear hy hs0 hxy
          go_wp2_with fail
          have e1 : IntKind.u64.wrap ((s0 : Int) + IntKind.u64.wrap ((x : Int) * y)) = ((s0 + x * y : Nat) : Int) := by
            have h := HXY.out
            rw [← Int.natCast_mul]
            generalize x * y = z at *
            rw [IntKind.wrap_u64, IntKind.wrap_u64]
            omega
          rw [e1]
          exact ⟨⟨j + 1, by omega, by simp, HB.out.set_other (by dsimp only; omega) _, HR.out.set_other (by dsimp only; omega) _, (HO.out.set (k + j) _).congr (fun i _ => by rw [← HS.out i]), HL.out.setCell (by dsimp only; omega) _⟩, by simp [intOf]; omega⟩
        · have hO2 : DgAt wr (n + 1 + 1 + 1) 32 60 (psum a b (k + 1)) := hO
          have HB := Lib.hid hB
          have HR := Lib.hid hR
          have HO := Lib.hid hO2
          have HL := Lib.hid hL
          clear hB hR hO hL hO2
          go_wp2_with fail
          exact ⟨⟨k + 1, by omega, by simp, HB.out, HR.out, HO.out, HL.out⟩, by simp [intOf]; omega⟩
    · have hO2 : DgAt wr (n + 1 + 1 + 1) 32 60 (psum a b 16) := hO
      have HR := Lib.hid hR
      have HO := Lib.hid hO2
      have HL := Lib.hid hL
      clear hB hR hO hL hO2
      go_wp2_with (first
        | (refine wpList_load_row (o := ⟨some 36, _, _, _, _, _⟩) rfl 60 _ rfl _ rfl _ _ _ _ HO.out hu2 rfl (hi2 _) ?_)
        | (refine wpList_store_row (o := ⟨none, .store 60 _ _, _, _, _, _⟩) rfl 60 _ _ rfl _ _ rfl rfl _ _ HR.out (hi2 _) (by rw [dgA_size, dgA_size]) (dgA_one _ _) ?_))
      (try simp only [Exit.inBlock, Exit.then])
      refine bodyPost_ret (results_cell_row rfl _ _ _ _ _ _ _ rfl (setRow_heap _ _ _ _ _ _ HR.out) hu2 rfl (hi2 _)) rfl ?_
      exact ⟨rfl, by rw [HN.out]; exact HL.out.trans ((only_setRow _ _ _).below (by omega) (by have := HR.out.lt; omega))⟩
end Go.Proofs.YteehdjkmjncehaaDoor
