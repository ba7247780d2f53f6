
/-
  spec.settle: what digits of any size stand for, modulo the prime.
-/
import Derived.Test.YteehdjkmjncehaaDoorLess
import Derived.Deep.LoopGhost
namespace Go.Proofs.YteehdjkmjncehaaDoor
open Go.RowKit
/-- What n digits of any size stand for. -/
def sumF (f : Nat → Nat) : Nat → Nat
  | 0 => 0
  | n + 1 => sumF f n + f n * 65536 ^ n
/-- What is carried behind k digits. -/
def cry (f : Nat → Nat) : Nat → Nat
  | 0 => 0
  | k + 1 => (cry f k + f k) / 65536
theorem cry_eq (f : Nat → Nat) : ∀ k, cry f k = sumF f k / 65536 ^ k
  | 0 => by simp [cry, sumF]
  | k + 1 => by
    have hM : 0 < 65536 ^ k := Nat.pow_pos (by decide)
    rw [cry, sumF, cry_eq f k, Nat.pow_succ, ← Nat.div_div_eq_div_mul, Nat.add_mul_div_right _ _ hM]
theorem sumF_more (f : Nat → Nat) (k : Nat) : ∀ d, ∃ r, sumF f (k + 1 + d) = sumF f (k + 1) + 65536 ^ (k + 1) * r
  | 0 => ⟨0, by simp⟩
  | d + 1 => by
    obtain ⟨r, hr⟩ := sumF_more f k d
    refine ⟨r + f (k + 1 + d) * 65536 ^ d, ?_⟩
    rw [show k + 1 + (d + 1) = (k + 1 + d) + 1 by omega, sumF, hr, Nat.mul_add, Nat.add_assoc]
    congr 2
    rw [Nat.pow_add, ← Nat.mul_assoc, ← Nat.mul_assoc, Nat.mul_comm (f (k + 1 + d)) (65536 ^ (k + 1))]
theorem dig_sum (f : Nat → Nat) {n k : Nat} (hk : k < n) : dig (sumF f n) k = (cry f k + f k) % 65536 := by
  have hM : 0 < 65536 ^ k := Nat.pow_pos (by decide)
  obtain ⟨r, hr⟩ := sumF_more f k (n - (k + 1))
  rw [show k + 1 + (n - (k + 1)) = n by omega] at hr
  unfold dig
  rw [hr, sumF, Nat.pow_succ, Nat.mul_assoc, cry_eq, Nat.add_mul_div_left _ _ hM, Nat.add_mul_div_right _ _ hM]
  omega
theorem sum_dig (S : Nat) : ∀ n, sumF (dig S) n = S % 65536 ^ n
  | 0 => by simp [sumF, Nat.mod_one]
  | n + 1 => by rw [sumF, sum_dig S n, mod_step, Nat.mul_comm]
theorem sumF_congr {f g : Nat → Nat} : ∀ {n : Nat}, (∀ i, i < n → f i = g i) → sumF f n = sumF g n
  | 0, _ => rfl
  | n + 1, h => by rw [sumF, sumF, sumF_congr (n := n) (fun i hi => h i (by omega)), h n (by omega)]
theorem sumF_upd0 (f : Nat → Nat) (c : Nat) : ∀ n, sumF (upd f 0 (f 0 + c)) (n + 1) = sumF f (n + 1) + c
  | 0 => by simp [sumF, upd]
  | n + 1 => by
    have e1 : sumF (upd f 0 (f 0 + c)) (n + 1 + 1) = sumF (upd f 0 (f 0 + c)) (n + 1) + upd f 0 (f 0 + c) (n + 1) * 65536 ^ (n + 1) := rfl
    have e2 : sumF f (n + 1 + 1) = sumF f (n + 1) + f (n + 1) * 65536 ^ (n + 1) := rfl
    have e3 : upd f 0 (f 0 + c) (n + 1) = f (n + 1) := by simp [upd]
    rw [e1, e2, e3, sumF_upd0 f c n]
    omega
theorem cry_lt (f : Nat → Nat) {n : Nat} (h : ∀ i, i < n → f i < 2 ^ 50) : ∀ k, k ≤ n → cry f k < 2 ^ 35
  | 0, _ => by simp [cry]
  | k + 1, hk => by
    have h1 := cry_lt f h k (by omega)
    have h2 := h k (by omega)
    rw [cry]
    omega
/-- One round: the digits behind it. -/
theorem settle_round (f : Nat → Nat) (hf : ∀ i, i < 16 → f i < 2 ^ 50) (V : Nat) (hV : sumF f 16 % p25 = V % p25) :
    (∀ i, i < 16 → upd (dig (sumF f 16)) 0 (dig (sumF f 16) 0 + 38 * cry f 16) i < 2 ^ 50) ∧
    sumF (upd (dig (sumF f 16)) 0 (dig (sumF f 16) 0 + 38 * cry f 16)) 16 % p25 = V % p25 ∧
    (cry f 16 = 0 → ∀ i, i < 16 → upd (dig (sumF f 16)) 0 (dig (sumF f 16) 0 + 38 * cry f 16) i < 65536) ∧
    2 * sumF (upd (dig (sumF f 16)) 0 (dig (sumF f 16) 0 + 38 * cry f 16)) 16 + (if cry f 16 = 0 then 0 else 1) < 2 * sumF f 16 + 1 := by
  have hc := cry_lt f hf 16 (by omega)
  have he : sumF (upd (dig (sumF f 16)) 0 (dig (sumF f 16) 0 + 38 * cry f 16)) 16 = sumF f 16 % 65536 ^ 16 + 38 * (sumF f 16 / 65536 ^ 16) := by
    rw [sumF_upd0 _ _ 15, sum_dig, cry_eq]
  have hce : cry f 16 = sumF f 16 / 65536 ^ 16 := cry_eq f 16
  refine ⟨fun i hi => ?_, ?_, fun h0 i hi => ?_, ?_⟩
  · unfold upd
    have := dig_lt (sumF f 16) i
    have := dig_lt (sumF f 16) 0
    split <;> omega
  · rw [he, ← hV]
    generalize sumF f 16 = S
    unfold p25
    omega
  · unfold upd
    have := dig_lt (sumF f 16) i
    have := dig_lt (sumF f 16) 0
    split <;> omega
  · rw [he, hce]
    generalize sumF f 16 = S
    split <;> omega
theorem dig_self (f : Nat → Nat) (h : ∀ i, i < 16 → f i < 65536) (i : Nat) (hi : i < 16) : dig (sumF f 16) i = f i := by
  have hc : ∀ k, k ≤ 16 → cry f k = 0 := by
    intro k
    induction k with
    | zero => intro _; rfl
    | succ k ih => intro hk; rw [cry, ih (by omega)]; have := h k (by omega); omega
  rw [dig_sum f hi, hc i (by omega)]
  have := h i hi
  omega
theorem sumF_lt (f : Nat → Nat) (h : ∀ i, i < 16 → f i < 65536) : sumF f 16 < 2 ^ 256 := by
  have := sum_dig (sumF f 16) 16
  rw [sumF_congr (fun i hi => dig_self f h i hi)] at this
  rw [this]
  exact Nat.lt_of_lt_of_eq (Nat.mod_lt _ (Nat.pow_pos (by decide))) (by decide +kernel)
theorem p25_lt : p25 < 2 ^ 256 := by decide +kernel
theorem upd_over (g f : Nat → Nat) (k i : Nat) : upd (fun j => if j < k then g j else f j) k (g k) i = if i < k + 1 then g i else f i := by
  unfold upd
  by_cases h : i = k
  · subst h; simp
  · rw [if_neg h]
    by_cases h2 : i < k
    · simp only [h2, if_true]; rw [if_pos (by omega)]
    · simp only [h2, if_false]; rw [if_neg (by omega)]
set_option maxRecDepth 100000 in
set_option maxHeartbeats 1600000 in
theorem settle47 (f0 : Nat → Nat) (hf0 : ∀ i, i < 16 → f0 i < 2 ^ 50) : Pure Tryd.prog 30 #[dgV 16 f0] (nV (sumF f0 16 % p25)) := by
  intro w
  unfold nV dgV
  have hu := Tryd.underlying25
  have hi : ∀ f, (Tryd.prog.info? 25).map (·.size) = some (dgA 16 f).size := by intro f; rw [dgA_size]; kernel_rfl
  go_enter Tryd.func30, Tryd.ntmps30
  go_wp2_with fail
  obtain ⟨w0, hw0⟩ : ∃ w0, w0 = ((w.alloc (Obj.cells (dgA 16 f0) 25)).alloc (Obj.cells (dgA 16 (fun _ => 0)) 25)) := ⟨_, rfl⟩
  have hA : DgAt w0 w.heap.size 16 25 f0 := by subst hw0; exact heap_alloc2_old w _ _
  have hR : DgAt w0 (w.heap.size + 1) 16 25 (fun _ => 0) := by subst hw0; exact heap_alloc2_new w _ _
  have hL : Below w.heap.size w w0 := by subst hw0; exact below2 w _ _
  change Code.wp _ _ _ _ ((w.alloc (Obj.cells (dgA 16 f0) 25)).alloc (Obj.cells (dgA 16 (fun _ => 0)) 25))
  rw [← hw0]
  clear hw0
  obtain ⟨n, hn⟩ : ∃ n, w.heap.size = n := ⟨_, rfl⟩
  have HN := Lib.hid hn
  rw [hn] at hR hA hL ⊢
  clear hn
  go_loopg [3] (2 * sumF f0 16 + 1) (fun gk c wr => ∃ (f : Nat → Nat) (cn : Nat), c = .int .u64 cn ∧ DgAt wr n 16 25 f ∧ DgAt wr (n + 1) 16 25 (fun _ => 0) ∧ Below n w wr ∧ (∀ i, i < 16 → f i < 2 ^ 50) ∧
    sumF f 16 % p25 = sumF f0 16 % p25 ∧ (cn = 0 → ∀ i, i < 16 → f i < 65536) ∧ cn < 2 ^ 35 ∧ gk = 2 * sumF f 16 + (if cn = 0 then 0 else 1))
  case atStart => exact ⟨f0, 1, rfl, hA, hR, hL, hf0, rfl, by omega, by omega, by simp⟩
  case round =>
    obtain ⟨f, cn, rfl, hA, hR, hL, hf, hS, hz, hcn, hg⟩ := hrel
    rcases Nat.eq_zero_or_pos cn with rfl | hpos
    · have hz' := hz rfl
      obtain ⟨S, hSd⟩ : ∃ S, sumF f 16 = S := ⟨_, rfl⟩
      have hSl : S < 2 ^ 256 := by rw [← hSd]; exact sumF_lt f hz'
      have hA2 : DgAt wr n 16 25 (dig S) := hA.congr (fun i hi => by rw [← hSd]; exact (dig_self f hz' i hi).symm)
      rw [hSd] at hS
      have HA := Lib.hid hA2
      have HR := Lib.hid hR
      have HL := Lib.hid hL
      have HS := Lib.hid hS
      clear hA hR hL hf hS hg hz hz' hA2 hSd
      go_wp2_with fail
      go_loopg [32] S (fun gk _ wr => ∃ x, x < 2 ^ 256 ∧ x % p25 = sumF f0 16 % p25 ∧ gk = x ∧ DgAt wr n 16 25 (dig x) ∧ DgAt wr (n + 1) 16 25 (fun _ => 0) ∧ Below n w wr)
      case atStart => exact ⟨S, hSl, HS.out, rfl, HA.out, HR.out, HL.out⟩
      case round =>
        clear HA HR HL HS
        obtain ⟨x, hx, hxS, hgx, hA, hR, hL⟩ := hrel
        have hi' : ∀ f, (Tryd.prog.info? 25).map (·.size) = some (dgL 16 f).length := by intro f; rw [hi f, List.size_toArray]
        have hrA : wr.rangeAt n 0 (dgL 16 (dig x)) := hA.range
        have HA := Lib.hid hA
        have HR := Lib.hid hR
        have HL := Lib.hid hL
        have HX := Lib.hid hxS
        have HG := Lib.hid hgx
        clear hA hR hL hxS hgx
        go_wp2_with fail
        refine wp_region_steady (Since wr) (by kernel_rfl) (by kernel_rfl) (Since.drew _) ?_
        refine wpSL_load (by rfl) _ _ rfl _ _ rfl _ _ (fun w hw => hw.range hrA HA.out.lt) hu rfl (hi' _) ?_
        simp only [Act.put, List.setIfInBounds_toArray, List.set_cons_zero, List.set_cons_succ]
        refine wpSL_call (by rfl) (fun w => by go_simp) (Pure.since p65) ?_
        simp only [Act.put, List.setIfInBounds_toArray, List.set_cons_zero, List.set_cons_succ]
        refine wpSL_call (by rfl) (fun w => by go_simp) (Pure.since (less68 x p25 hx p25_lt)) ?_
        simp only [Act.put, List.setIfInBounds_toArray, List.set_cons_zero, List.set_cons_succ]
        refine wpSL_value (by rfl) (fun w hw => by go_simp; with_reducible rfl) ?_
        simp only [Act.put, List.setIfInBounds_toArray, List.set_cons_zero, List.set_cons_succ]
        refine wpSL_nil ?_
        intro w1 hw1
        by_cases hlt : x < p25
        · have hd : (!decide (x < p25)) = false := by simp [hlt]
          rw [hd]
          have hA1 := HA.out.below hw1 HA.out.lt
          have hR1 := HR.out.below hw1 HR.out.lt
          have hL1 := HL.out.trans (hw1.mono (Nat.le_of_lt HA.out.lt))
          have HR := Lib.hid hR1
          have HA := Lib.hid hA1
          have HL := Lib.hid hL1
          have hi'' := hi
          clear hA1 hR1 hL1 hw1 hrA hi' hd
          go_wp2_with (first
            | (refine wpList_load_row (o := ⟨some 36, _, _, _, _, _⟩) rfl 25 _ rfl _ rfl _ _ _ _ HA.out hu rfl (hi _) ?_)
            | (refine wpList_store_row (o := ⟨none, .store 25 _ _, _, _, _, _⟩) rfl 25 _ _ rfl _ _ rfl rfl _ _ HR.out (hi _) (by rw [dgA_size, dgA_size]) (dgA_one _ _) ?_))
          (try simp only [Exit.inBlock, Exit.then])
          refine bodyPost_ret (results_cell_row rfl _ _ _ _ _ _ _ rfl (setRow_heap _ _ _ _ _ _ HR.out) hu rfl (hi _)) rfl ?_
          have he : x = sumF f0 16 % p25 := by rw [← HX.out, Nat.mod_eq_of_lt hlt]
          exact ⟨by rw [← he], by rw [HN.out]; exact HL.out.trans ((only_setRow _ _ _).below (by omega) (by have := HR.out.lt; omega))⟩
        · have hd : (!decide (x < p25)) = true := by simp [hlt]
          rw [hd]
          have hA1 : DgAt w1 n 16 25 (dig x) := HA.out.below hw1 HA.out.lt
          have hR1 := HR.out.below hw1 HR.out.lt
          have hL1 := HL.out.trans (hw1.mono (Nat.le_of_lt HA.out.lt))
          have hrB : w1.rangeAt n 0 (dgL 16 (dig x)) := hA1.range
          have HR := Lib.hid hR1
          have HA := Lib.hid hA1
          have HL := Lib.hid hL1
          clear hA1 hR1 hL1 hw1 hrA hd
          go_wp2_with fail
          refine wp_region_steady_tail 3 (Since w1) (by kernel_rfl) (by kernel_rfl) (Since.drew _) ?_
          simp only [List.take, List.drop]
          refine wpSL_load (by rfl) _ _ rfl _ _ rfl _ _ (fun w hw => hw.range hrB HA.out.lt) hu rfl (hi' _) ?_
          simp only [Act.put, List.setIfInBounds_toArray, List.set_cons_zero, List.set_cons_succ]
          refine wpSL_call (by rfl) (fun w => by go_simp) (Pure.since p65) ?_
          simp only [Act.put, List.setIfInBounds_toArray, List.set_cons_zero, List.set_cons_succ]
          refine wpSL_call (by rfl) (fun w => by go_simp) (Pure.since (minus69 x p25 (by omega))) ?_
          simp only [Act.put, List.setIfInBounds_toArray, List.set_cons_zero, List.set_cons_succ]
          refine wpSL_nil ?_
          intro w2 hw2
          have hA1 : DgAt w2 n 16 25 (dig x) := HA.out.below hw2 HA.out.lt
          have hR1 := HR.out.below hw2 HR.out.lt
          have hL1 := HL.out.trans (hw2.mono (Nat.le_of_lt HA.out.lt))
          have HR := Lib.hid hR1
          have HA := Lib.hid hA1
          have HL := Lib.hid hL1
          clear hA1 hR1 hL1 hw2 hrB
          go_wp2_with (first
            | (refine wpList_store_row (o := ⟨none, .store 25 _ _, _, _, _, _⟩) rfl 25 _ _ rfl _ _ rfl rfl _ _ HA.out (hi _) (by rw [dgA_size, dgA_size]) (dgA_one _ _) ?_))
          go_roundg (x - p25)
          case measure =>
            have h2 := HG.out
            have h3 : 0 < p25 := by decide +kernel
            omega
          case rel =>
            refine ⟨x - p25, by omega, ?_, rfl, setRow_heap _ _ _ _ _ _ HA.out, ?_, HL.out.trans ((only_setRow _ _ _).below (by omega) (Nat.le_of_lt HA.out.lt))⟩
            · rw [← Nat.mod_eq_sub_mod (by omega)]; exact HX.out
            · unfold DgAt; rw [setRow_other _ _ _ _ (by omega)]; exact HR.out
    · have HA := Lib.hid hA
      have HR := Lib.hid hR
      have HL := Lib.hid hL
      have HF := Lib.hid hf
      have HS := Lib.hid hS
      have HG := Lib.hid hg
      clear hA hR hL hf hS hg hz
      go_wp2_with (first
        | (refine wpList_load_row (o := ⟨some 8, _, _, _, _, _⟩) rfl 25 _ rfl _ rfl _ _ _ _ HA.out hu rfl (hi _) ?_))
      go_loopw [3, 9] (fun c i wr => ∃ k : Nat, k ≤ 16 ∧ i = .int .i64 k ∧ c = .int .u64 (cry f k : Nat) ∧ DgAt wr n 16 25 (fun j => if j < k then dig (sumF f 16) j else f j) ∧ DgAt wr (n + 1) 16 25 (fun _ => 0) ∧ Below n w wr) (fun _ i _ => 16 - (intOf i).toNat)
      case atStart => exact ⟨0, by omega, rfl, rfl, HA.out.congr (by simp), HR.out, HL.out⟩
      case round =>
        clear HA HR HL
        obtain ⟨k, hk, rfl, rfl, hA, hR, hL⟩ := hrel
        have hc := cry_lt f HF.out k hk
        rcases (show k < 16 ∨ k = 16 by omega) with hlt | rfl
        · have cA : wr.cell? ⟨n, k, none⟩ = some (.int .u64 (f k : Nat)) := by have := hA.cell hlt; simpa using this
          have fA : wr.frozen? ⟨n, k, none⟩ = false := hA.frozen k
          have hb := HF.out k hlt
          have e1 := dig_sum f hlt
          have e2 : cry f (k + 1) = (cry f k + f k) / 65536 := rfl
          have E1 := Lib.hid e1
          have E2 := Lib.hid e2
          clear e1 e2
          have HA := Lib.hid hA
          have HR := Lib.hid hR
          have HL := Lib.hid hL
          clear hA hR hL
          have hix : (Instr.index 25 (.agg (dgA 16 f)) (.int .i64 (k : Int))).run Tryd.prog wr = .ok (.int .u64 (f k : Nat)) wr := run_index_one hu Tryd.underlying23 (by kernel_rfl) hlt (dgA_get hlt) wr
          generalize cry f k = x at *
          generalize f k = y at *
          go_wp2_with fail
          have e1 : ((x : Int) + y) % 65536 = ((dig (sumF f 16) k : Nat) : Int) := by have e := E1.out; omega
          have e2 : ((x : Int) + y) / 65536 = ((cry f (k + 1) : Nat) : Int) := by have e := E2.out; omega
          rw [e1, e2]
          refine ⟨⟨k + 1, by omega, by simp, rfl, (HA.out.set k _).congr (fun i _ => upd_over _ _ k i), HR.out.set_other (by dsimp only; omega) _, HL.out.setCell (by dsimp only; omega) _⟩, by simp [intOf]; omega⟩
        · have hA2 := hA.congr (g := dig (sumF f 16)) (fun i hi => by simp only [hi, if_true])
          have c0 : wr.cell? ⟨n, 0, none⟩ = some (.int .u64 (dig (sumF f 16) 0 : Nat)) := hA2.cell (by decide)
          have f0' : wr.frozen? ⟨n, 0, none⟩ = false := hA2.frozen 0
          have hd0 := dig_lt (sumF f 16) 0
          have HR2 := settle_round f HF.out _ HS.out
          have HX := Lib.hid HR2
          have HA := Lib.hid hA2
          have HR := Lib.hid hR
          have HL := Lib.hid hL
          clear hA hR hL hA2 HR2
          generalize hx : cry f 16 = x at *
          generalize hy : dig (sumF f 16) 0 = y at *
          have HXX := Lib.hid hx
          have HYY := Lib.hid hy
          clear hx hy
          go_wp2_with fail
          go_roundg (2 * sumF (upd (dig (sumF f 16)) 0 (y + 38 * x)) 16 + (if x = 0 then 0 else 1))
          case measure =>
            have h1 := HX.out.2.2.2
            have h2 := HG.out
            rw [if_neg (by omega)] at h2
            omega
          case rel =>
            have e1 : ((y : Int) + 38 * x) = ((y + 38 * x : Nat) : Int) := by omega
            rw [e1]
            exact ⟨_, x, rfl, HA.out.set 0 _, HR.out.set_other (by dsimp only; omega) _, HL.out.setCell (by dsimp only; omega) _, HX.out.1, HX.out.2.1, HX.out.2.2.1, hc, rfl⟩
end Go.Proofs.YteehdjkmjncehaaDoor
