
/-
  spec.minus: the difference, digit by digit.
-/
import Derived.Test.YteehdjkmjncehaaDoorDig
namespace Go.Proofs.YteehdjkmjncehaaDoor
open Go.RowKit
/-- What is borrowed behind k digits. -/
def brw (a b k : Nat) : Nat := if a % 65536 ^ k < b % 65536 ^ k then 1 else 0
theorem brw_le (a b k : Nat) : brw a b k ≤ 1 := by unfold brw; split <;> omega
theorem minus_brw (a b k : Nat) : brw a b (k + 1) = 1 - (dig a k + 65536 - dig b k - brw a b k) / 65536 := by
  have hM : 0 < 65536 ^ k := Nat.pow_pos (by decide)
  have hA := Nat.mod_lt a hM
  have hB := Nat.mod_lt b hM
  have h1 := dig_lt a k
  have h2 := dig_lt b k
  have e : brw a b (k + 1) = if a % 65536 ^ k + 65536 ^ k * dig a k < b % 65536 ^ k + 65536 ^ k * dig b k then 1 else 0 := by unfold brw; rw [mod_step, mod_step]
  rw [e]
  unfold brw
  generalize dig a k = x at *
  generalize dig b k = y at *
  generalize a % 65536 ^ k = A at *
  generalize b % 65536 ^ k = B at *
  generalize 65536 ^ k = M at *
  rcases Nat.lt_trichotomy x y with h | h | h
  · have := Nat.mul_le_mul_left M (show x + 1 ≤ y from h)
    rw [Nat.mul_add] at this
    rw [if_pos (by omega)]
    split <;> omega
  · subst h
    by_cases hAB : A < B
    · rw [if_pos (by omega), if_pos hAB]; omega
    · rw [if_neg (by omega), if_neg hAB]; omega
  · have := Nat.mul_le_mul_left M (show y + 1 ≤ x from h)
    rw [Nat.mul_add] at this
    rw [if_neg (by omega)]
    split <;> omega
theorem minus_dig (a b k : Nat) (hb : b ≤ a) : dig (a - b) k = (dig a k + 65536 - dig b k - brw a b k) % 65536 := by
  have hM : 0 < 65536 ^ k := Nat.pow_pos (by decide)
  have hA := Nat.mod_lt a hM
  have hB := Nat.mod_lt b hM
  have ea := Nat.div_add_mod a (65536 ^ k)
  have eb := Nat.div_add_mod b (65536 ^ k)
  have hq : (a - b) / 65536 ^ k + b / 65536 ^ k + brw a b k = a / 65536 ^ k := by
    unfold brw
    generalize hx : a / 65536 ^ k = x at *
    generalize hy : b / 65536 ^ k = y at *
    generalize a % 65536 ^ k = A at *
    generalize b % 65536 ^ k = B at *
    generalize 65536 ^ k = M at *
    have hyx : y ≤ x := by
      rcases Nat.lt_or_ge x y with h | h
      · have := Nat.mul_le_mul_left M (show x + 1 ≤ y from h)
        rw [Nat.mul_add] at this
        omega
      · exact h
    obtain ⟨q, rfl⟩ : ∃ q, x = y + q := ⟨x - y, by omega⟩
    rw [Nat.mul_add] at ea
    by_cases hAB : A < B
    · rw [if_pos hAB]
      obtain ⟨t, rfl⟩ : ∃ t, q = t + 1 := by
        cases q with
        | zero => simp at ea; omega
        | succ t => exact ⟨t, rfl⟩
      rw [Nat.mul_add] at ea
      have : (a - b) / M = t := by
        rw [Nat.div_eq_of_lt_le (k := t)]
        · rw [Nat.mul_comm]; omega
        · rw [Nat.succ_mul, Nat.mul_comm]; omega
      omega
    · rw [if_neg hAB]
      have : (a - b) / M = q := by
        rw [Nat.div_eq_of_lt_le (k := q)]
        · rw [Nat.mul_comm]; omega
        · rw [Nat.succ_mul, Nat.mul_comm]; omega
      omega
  have h2 := brw_le a b k
  unfold dig
  omega
set_option maxRecDepth 100000 in
set_option maxHeartbeats 800000 in
theorem minus69 (a b : Nat) (hb : b ≤ a) : Pure Tryd.prog 43 #[nV a, nV b] (nV (a - b)) := by
  intro w
  unfold nV dgV
  have hu := Tryd.underlying25
  have hi : ∀ f, (Tryd.prog.info? 25).map (·.size) = some (dgA 16 f).size := by intro f; rw [dgA_size]; kernel_rfl
  go_enter Tryd.func43, Tryd.ntmps43
  go_wp2_with (first
    | (refine wpList_store_row (o := ⟨none, .store 25 _ _, _, _, _, _⟩) rfl 25 _ _ rfl _ (dgA 16 (fun _ => 0)) rfl rfl _ _ (heap_alloc_new _ _) (hi _) rfl (dgA_one _ _) ?_))
  obtain ⟨w0, hw0⟩ : ∃ w0, w0 = ((((w.alloc (Obj.cells (dgA 16 (dig a)) 25)).alloc (Obj.cells (dgA 16 (dig b)) 25)).alloc (Obj.cells (dgA 16 (fun _ => 0)) 25)).alloc (Obj.cells (dgA 16 (fun _ => 0)) 25)) := ⟨_, rfl⟩
  have hA : DgAt w0 w.heap.size 16 25 (dig a) := by subst hw0; exact new4_0 w _ _ _ _
  have hB : DgAt w0 (w.heap.size + 1) 16 25 (dig b) := by subst hw0; exact new4_1 w _ _ _ _
  have hR : DgAt w0 (w.heap.size + 1 + 1) 16 25 (fun _ => 0) := by subst hw0; exact new4_2 w _ _ _ _
  have hO : DgAt w0 (w.heap.size + 1 + 1 + 1) 16 25 (fun _ => 0) := by subst hw0; exact new4_3 w _ _ _ _
  have hL : Below w.heap.size w w0 := by subst hw0; exact below4 w _ _ _ _
  change Code.wp _ _ _ _ ((((w.alloc (Obj.cells (dgA 16 (dig a)) 25)).alloc (Obj.cells (dgA 16 (dig b)) 25)).alloc (Obj.cells (dgA 16 (fun _ => 0)) 25)).alloc (Obj.cells (dgA 16 (fun _ => 0)) 25))
  rw [← hw0]
  clear hw0
  obtain ⟨n, hn⟩ : ∃ n, w.heap.size = n := ⟨_, rfl⟩
  have HN := Lib.hid hn
  rw [hn] at hA hB hR hO hL ⊢
  clear hn
  go_loopw [6, 10] (fun br i wr => ∃ k : Nat, k ≤ 16 ∧ i = .int .i64 k ∧ br = .int .u64 (brw a b k : Nat) ∧ DgAt wr n 16 25 (dig a) ∧ DgAt wr (n + 1) 16 25 (dig b) ∧ DgAt wr (n + 1 + 1) 16 25 (fun _ => 0) ∧
      DgAt wr (n + 1 + 1 + 1) 16 25 (fun j => if j < k then dig (a - b) j else 0) ∧ Below n w wr) (fun _ i _ => 16 - (intOf i).toNat)
  case atStart => exact ⟨0, by omega, rfl, by simp [brw, Nat.mod_one], hA, hB, hR, hO.congr (by simp), hL⟩
  case round =>
    obtain ⟨k, hk, rfl, rfl, hA, hB, hR, hO, hL⟩ := hrel
    have dA := dig_lt a k
    have dB := dig_lt b k
    have dW : brw a b k ≤ 1 := by unfold brw; split <;> omega
    have eS : dig (a - b) k = (dig a k + 65536 - dig b k - brw a b k) % 65536 := minus_dig a b k hb
    have eW : brw a b (k + 1) = 1 - (dig a k + 65536 - dig b k - brw a b k) / 65536 := minus_brw a b k
    have ES := Lib.hid eS
    have EW := Lib.hid eW
    clear eS eW
    have hlt : k < 16 ∨ k = 16 := by omega
    rcases hlt with hlt | rfl
    · have cA : wr.cell? ⟨n, k, none⟩ = some (.int .u64 (dig a k : Nat)) := hA.cell hlt
      have cB : wr.cell? ⟨n + 1, k, none⟩ = some (.int .u64 (dig b k : Nat)) := hB.cell hlt
      have cO : wr.cell? ⟨n + 1 + 1 + 1, k, none⟩ = some (.int .u64 (0 : Nat)) := by have := hO.cell hlt; simpa using this
      have fO : wr.frozen? ⟨n + 1 + 1 + 1, k, none⟩ = false := hO.frozen k
      generalize dig a k = x at *
      generalize dig b k = y at *
      generalize brw a b k = z at *
      have HA := Lib.hid hA
      have HB := Lib.hid hB
      have HR := Lib.hid hR
      have HO := Lib.hid hO
      have HL := Lib.hid hL
      clear hA hB hR hO hL
      go_wp2_with fail
      go_quiet (fail)
      go_wp2_with fail
      have e1 : ((x : Int) + 65536 - y - z) % 65536 = ((dig (a - b) k : Nat) : Int) := by have e := ES.out; omega
      have e2 : 1 - ((x : Int) + 65536 - y - z) / 65536 = ((brw a b (k + 1) : Nat) : Int) := by have e := EW.out; omega
      rw [e1, e2]
      refine ⟨⟨k + 1, by omega, by simp, rfl, HA.out.drewN.set_other (by dsimp only; omega) _, HB.out.drewN.set_other (by dsimp only; omega) _, HR.out.drewN.set_other (by dsimp only; omega) _, (HO.out.drewN.set k _).congr (fun i _ => upd_upTo _ k i), (belowDrewN HL.out).setCell (by dsimp only; omega) _⟩, by simp [intOf]; omega⟩
    · have hO2 : DgAt wr (n + 1 + 1 + 1) 16 25 (dig (a - b)) := hO.congr (fun i hi => by rw [if_pos hi])
      have HR := Lib.hid hR
      have HO := Lib.hid hO2
      have HL := Lib.hid hL
      clear hA hB hR hO hL hO2
      go_wp2_with (first
        | (refine wpList_load_row (o := ⟨some 31, _, _, _, _, _⟩) rfl 25 _ rfl _ rfl _ _ _ _ HO.out hu rfl (hi _) ?_)
        | (refine wpList_store_row (o := ⟨none, .store 25 _ _, _, _, _, _⟩) rfl 25 _ _ rfl _ _ rfl rfl _ _ HR.out (hi _) (by rw [dgA_size, dgA_size]) (dgA_one _ _) ?_))
      (try simp only [Exit.inBlock, Exit.then])
      refine bodyPost_ret (results_cell_row rfl _ _ _ _ _ _ _ rfl (setRow_heap _ _ _ _ _ _ HR.out) hu rfl (hi _)) rfl ?_
      exact ⟨rfl, by rw [HN.out]; exact HL.out.trans ((only_setRow _ _ _).below (by omega) (by have := HR.out.lt; omega))⟩
end Go.Proofs.YteehdjkmjncehaaDoor
