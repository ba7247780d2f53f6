
/-
  spec.Less and spec.P.
-/
import Derived.Test.YteehdjkmjncehaaDoorMinus
import Derived.Test.YteehdjkmjncehaaDoorLaw
namespace Go.Proofs.YteehdjkmjncehaaDoor
open Go.RowKit
theorem less_step (a b k : Nat) (h : a / 65536 ^ (k + 1) = b / 65536 ^ (k + 1)) : (dig a k = dig b k → a / 65536 ^ k = b / 65536 ^ k) ∧ (dig a k ≠ dig b k → (a < b ↔ dig a k < dig b k)) := by
  have hM : 0 < 65536 ^ k := Nat.pow_pos (by decide)
  rw [Nat.pow_succ, ← Nat.div_div_eq_div_mul, ← Nat.div_div_eq_div_mul] at h
  have hA := Nat.mod_lt a hM
  have hB := Nat.mod_lt b hM
  have ea := Nat.div_add_mod a (65536 ^ k)
  have eb := Nat.div_add_mod b (65536 ^ k)
  unfold dig
  generalize a / 65536 ^ k = x at *
  generalize b / 65536 ^ k = y at *
  generalize 65536 ^ k = M at *
  refine ⟨fun e => by omega, fun e => ?_⟩
  have key : x < y ↔ x % 65536 < y % 65536 := by omega
  rw [← key]
  rcases Nat.lt_or_ge x y with hl | hl
  · have := Nat.mul_le_mul_left M (show x + 1 ≤ y from hl)
    rw [Nat.mul_add] at this
    exact ⟨fun _ => hl, fun _ => by omega⟩
  · have := Nat.mul_le_mul_left M (show y + 1 ≤ x by omega)
    rw [Nat.mul_add] at this
    exact ⟨fun _ => by omega, fun _ => by omega⟩
set_option maxRecDepth 100000 in
set_option maxHeartbeats 800000 in
theorem less68 (a b : Nat) (ha : a < 2 ^ 256) (hb : b < 2 ^ 256) : Pure Tryd.prog 49 #[nV a, nV b] (.bool (decide (a < b))) := by
  intro w
  unfold nV dgV
  go_enter Tryd.func49, Tryd.ntmps49
  go_wp2_with fail
  obtain ⟨w0, hw0⟩ : ∃ w0, w0 = ((w.alloc (Obj.cells (dgA 16 (dig a)) 25)).alloc (Obj.cells (dgA 16 (dig b)) 25)) := ⟨_, rfl⟩
  have hA : DgAt w0 w.heap.size 16 25 (dig a) := by subst hw0; exact heap_alloc2_old w _ _
  have hB : DgAt w0 (w.heap.size + 1) 16 25 (dig b) := by subst hw0; exact heap_alloc2_new w _ _
  have hL : Below w.heap.size w w0 := by subst hw0; exact below2 w _ _
  rw [← hw0]
  clear hw0
  obtain ⟨n, hn⟩ : ∃ n, w.heap.size = n := ⟨_, rfl⟩
  have HN := Lib.hid hn
  rw [hn] at hA hB hL ⊢
  clear hn
  go_loopw [5] (fun i wr => ∃ (q : Int) (k : Nat), k ≤ 16 ∧ q + 1 = k ∧ i = .int .i64 q ∧ a / 65536 ^ k = b / 65536 ^ k ∧ DgAt wr n 16 25 (dig a) ∧ DgAt wr (n + 1) 16 25 (dig b) ∧ Below n w wr) (fun i _ => (intOf i + 1).toNat)
  case atStart => exact ⟨15, 16, by omega, by omega, rfl, by rw [Nat.div_eq_of_lt (by omega), Nat.div_eq_of_lt (by omega)], hA, hB, hL⟩
  case round =>
    obtain ⟨q, k, hk, hq, rfl, he, hA, hB, hL⟩ := hrel
    have HA := Lib.hid hA
    have HB := Lib.hid hB
    have HL := Lib.hid hL
    cases k with
    | zero =>
      obtain rfl : q = -1 := by omega
      have hE : a = b := by simpa using he
      have HE := Lib.hid hE
      clear hA hB hL he hE
      go_wp2_with fail
      go_ret
      exact ⟨by rw [HE.out]; simp, by rw [HN.out]; exact HL.out⟩
    | succ k =>
      obtain rfl : q = (k : Int) := by omega
      have hlt : k < 16 := by omega
      obtain ⟨s1, s2⟩ := less_step a b k he
      have cA : wr.cell? ⟨n, k, none⟩ = some (.int .u64 (dig a k : Nat)) := hA.cell hlt
      have cB : wr.cell? ⟨n + 1, k, none⟩ = some (.int .u64 (dig b k : Nat)) := hB.cell hlt
      have S1 := Lib.hid s1
      have S2 := Lib.hid s2
      clear hA hB hL he s1 s2
      go_wp2_with fail
      go_quiet (fail)
      go_wp2_with fail
      · go_quiet (fail)
        go_wp2_with fail
        go_ret
        have hne : dig a k ≠ dig b k := by
          have h : ((dig a k : Int) != (dig b k : Int)) = true := by assumption
          intro e
          rw [e] at h
          simp at h
        refine ⟨?_, by rw [HN.out]; exact belowDrewN (belowDrewN HL.out)⟩
        have hd : decide (dig a k < dig b k) = decide (a < b) := by
          rw [Bool.eq_iff_iff, decide_eq_true_eq, decide_eq_true_eq]
          exact (S2.out hne).symm
        rw [← hd]; rfl
      · have heq : dig a k = dig b k := by
          have h : ((dig a k : Int) != (dig b k : Int)) = false := by assumption
          have h2 : (dig a k : Int) = dig b k := by simpa using h
          omega
        exact ⟨⟨(k : Int) - 1, k, by omega, by omega, rfl, S1.out heq, HA.out.drewN, HB.out.drewN, belowDrewN HL.out⟩, by simp [intOf]⟩
theorem dig_p (i : Nat) (hi : i < 16) : dig p25 i = upd (upd (fun _ => 65535) 0 65517) 15 32767 i := by
  have h : ∀ i ∈ List.range 16, dig p25 i = upd (upd (fun _ => 65535) 0 65517) 15 32767 i := by decide +kernel
  exact h i (List.mem_range.2 hi)
set_option maxRecDepth 100000 in
set_option maxHeartbeats 800000 in
theorem p65 : Pure Tryd.prog 13 #[] (nV p25) := by
  intro w
  unfold nV dgV
  have hu := Tryd.underlying25
  have hi : ∀ f, (Tryd.prog.info? 25).map (·.size) = some (dgA 16 f).size := by intro f; rw [dgA_size]; kernel_rfl
  go_enter Tryd.func13, Tryd.ntmps13
  go_wp2_with fail
  obtain ⟨w0, hw0⟩ : ∃ w0, w0 = ((w.alloc (Obj.cells (dgA 16 (fun _ => 0)) 25)).alloc (Obj.cells (dgA 16 (fun _ => 0)) 25)) := ⟨_, rfl⟩
  have hR : DgAt w0 w.heap.size 16 25 (fun _ => 0) := by subst hw0; exact heap_alloc2_old w _ _
  have hO : DgAt w0 (w.heap.size + 1) 16 25 (fun _ => 0) := by subst hw0; exact heap_alloc2_new w _ _
  have hL : Below w.heap.size w w0 := by subst hw0; exact below2 w _ _
  change Code.wp _ _ _ _ ((w.alloc (Obj.cells (dgA 16 (fun _ => 0)) 25)).alloc (Obj.cells (dgA 16 (fun _ => 0)) 25))
  rw [← hw0]
  clear hw0
  obtain ⟨n, hn⟩ : ∃ n, w.heap.size = n := ⟨_, rfl⟩
  have HN := Lib.hid hn
  rw [hn] at hR hO hL ⊢
  clear hn
  go_loopw [4] (fun i wr => ∃ k : Nat, k ≤ 16 ∧ i = .int .i64 k ∧ DgAt wr n 16 25 (fun _ => 0) ∧ DgAt wr (n + 1) 16 25 (fun j => if j < k then 65535 else 0) ∧ Below n w wr) (fun i _ => 16 - (intOf i).toNat)
  case atStart => exact ⟨0, by omega, rfl, hR, hO.congr (by simp), hL⟩
  case round =>
    obtain ⟨k, hk, rfl, hR, hO, hL⟩ := hrel
    rcases (show k < 16 ∨ k = 16 by omega) with hlt | rfl
    · have cO : wr.cell? ⟨n + 1, k, none⟩ = some (.int .u64 (0 : Nat)) := by have := hO.cell hlt; simpa using this
      have fO : wr.frozen? ⟨n + 1, k, none⟩ = false := hO.frozen k
      have HR := Lib.hid hR
      have HO := Lib.hid hO
      have HL := Lib.hid hL
      clear hR hO hL
      go_wp2_with fail
      exact ⟨⟨k + 1, by omega, by simp, HR.out.set_other (by dsimp only; omega) _, (HO.out.set k 65535).congr (fun i _ => upd_upTo (fun _ => 65535) k i), HL.out.setCell (by dsimp only; omega) _⟩, by simp [intOf]; omega⟩
    · have cO : wr.cell? ⟨n + 1, 0, none⟩ = some (.int .u64 (65535 : Nat)) := by have := hO.cell (k := 0) (by decide); simpa using this
      have cO2 : wr.cell? ⟨n + 1, 15, none⟩ = some (.int .u64 (65535 : Nat)) := by have := hO.cell (k := 15) (by decide); simpa using this
      have fO : wr.frozen? ⟨n + 1, 0, none⟩ = false := hO.frozen 0
      have fO2 : wr.frozen? ⟨n + 1, 15, none⟩ = false := hO.frozen 15
      have hO2 := (((hO.congr (g := fun _ => 65535) (fun i hi => by simp only [hi, if_true])).set 0 65517).set 15 32767).congr (g := dig p25) (fun i hi => (dig_p i hi).symm)
      have hR2 := (hR.set_other (p := ⟨n + 1, 0, none⟩) (by dsimp only; omega) (.int .u64 ((65517 : Nat) : Int))).set_other (p := ⟨n + 1, 15, none⟩) (by dsimp only; omega) (.int .u64 ((32767 : Nat) : Int))
      have hL2 := (hL.setCell (p := ⟨n + 1, 0, none⟩) (by dsimp only; omega) (.int .u64 ((65517 : Nat) : Int))).setCell (p := ⟨n + 1, 15, none⟩) (by dsimp only; omega) (.int .u64 ((32767 : Nat) : Int))
      have HR := Lib.hid hR2
      have HO := Lib.hid hO2
      have HL := Lib.hid hL2
      clear hR hO hL hO2 hR2 hL2
      go_wp2_with (first
        | (refine wpList_load_row (o := ⟨some 12, _, _, _, _, _⟩) rfl 25 _ rfl _ rfl _ _ _ _ HO.out hu rfl (hi _) ?_)
        | (refine wpList_store_row (o := ⟨none, .store 25 _ _, _, _, _, _⟩) rfl 25 _ _ rfl _ _ rfl rfl _ _ HR.out (hi _) (by rw [dgA_size, dgA_size]) (dgA_one _ _) ?_))
      (try simp only [Exit.inBlock, Exit.then])
      refine bodyPost_ret (results_cell_row rfl _ _ _ _ _ _ _ rfl (setRow_heap _ _ _ _ _ _ HR.out) hu rfl (hi _)) rfl ?_
      exact ⟨rfl, by rw [HN.out]; exact HL.out.trans ((only_setRow _ _ _).below (by omega) (by have := HR.out.lt; omega))⟩
end Go.Proofs.YteehdjkmjncehaaDoor
