
/-
  spec.Mod, spec.Bytes, spec.Of, laws.is.
-/
import Derived.Test.YteehdjkmjncehaaDoorSettle
namespace Go.Proofs.YteehdjkmjncehaaDoor
open Go.RowKit
theorem byt_dig (v k : Nat) : byt v k = dig v (k / 2) / 2 ^ (8 * (k % 2)) % 256 := by
  unfold byt dig
  obtain ⟨q, r, hr, rfl⟩ : ∃ q r, r < 2 ∧ k = 2 * q + r := ⟨k / 2, k % 2, Nat.mod_lt _ (by decide), by omega⟩
  have e1 : (2 * q + r) / 2 = q := by omega
  have e2 : (2 * q + r) % 2 = r := by omega
  rw [e1, e2, Nat.pow_add, Nat.pow_mul, ← Nat.div_div_eq_div_mul]
  rw [show 256 ^ 2 = 65536 from rfl]
  rcases (show r = 0 ∨ r = 1 by omega) with rfl | rfl
  · simp
  · simp; omega
set_option maxRecDepth 100000 in
set_option maxHeartbeats 800000 in
theorem mod22 (v : Nat) (hv : v < 2 ^ 256) : Pure Tryd.prog 9 #[nV v] (nV (v % p25)) := by
  intro w
  unfold nV dgV
  have hu := Tryd.underlying25
  have hi : ∀ f, (Tryd.prog.info? 25).map (·.size) = some (dgA 16 f).size := by intro f; rw [dgA_size]; kernel_rfl
  have hs := settle47 (dig v) (fun i _ => Nat.lt_trans (dig_lt v i) (by decide))
  rw [sum_dig, Nat.mod_eq_of_lt (Nat.lt_of_lt_of_eq hv (by decide +kernel))] at hs
  have HS := Lib.hid hs
  clear hs
  have hA := fun o => heap_alloc2_old w (.cells (dgA 16 (dig v)) 25) o
  have hN := fun o => heap_alloc2_new w (.cells (dgA 16 (dig v)) 25) o
  go_enter Tryd.func9, Tryd.ntmps9
  go_wp2_with (first
    | (refine wpList_load_row (o := ⟨some 3, _, _, _, _, _⟩) rfl 25 _ rfl _ rfl _ _ _ _ (hA _) hu rfl (hi _) ?_)
    | (go_at_call 30; refine (HS.out _).mono ?_; rintro e w1 ⟨rfl, hb1⟩)
    | (refine wpList_store_row (o := ⟨none, .store 25 _ _, _, _, _, _⟩) rfl 25 _ _ rfl _ _ rfl rfl _ _ ((hb1.block _ (by simp)).trans (hN _)) (hi _) (by rw [dgA_size]; rfl) (dgA_one _ _) ?_))
  (try simp only [Exit.inBlock, Exit.then])
  have hR := setRow_heap w1 (w.heap.size + 1) _ (dgA 16 (dig (v % p25))) _ _ ((hb1.block _ (by simp)).trans (hN _))
  have hL := ((below2 w _ _).trans (hb1.mono (by simp; omega))).trans ((only_setRow w1 (w.heap.size + 1) (dgA 16 (dig (v % p25)))).below (B := w.heap.size) (by simp) (Nat.le_trans (by simp; omega) hb1.size))
  refine bodyPost_ret (results_cell_row rfl _ _ _ _ _ _ _ rfl hR hu rfl (hi _)) rfl ?_
  exact ⟨rfl, hL⟩
set_option maxRecDepth 100000 in
set_option maxHeartbeats 800000 in
theorem bytes25 (v : Nat) : Pure Tryd.prog 12 #[nV v] (byV 32 v) := by
  intro w
  unfold nV dgV byV
  have hu := Tryd.underlying22
  have hi : ∀ f, (Tryd.prog.info? 22).map (·.size) = some (bfA 32 f).size := by intro f; rw [bfA_size]; kernel_rfl
  go_enter Tryd.func12, Tryd.ntmps12
  go_wp2_with (first
    | (refine wpList_store_row (o := ⟨none, .store 22 _ _, _, _, _, _⟩) rfl 22 _ _ rfl (w.heap.size + 1 + 1) (bfA 32 (fun _ => 0)) rfl rfl _ _ (new3_2 _ _ _ _) (hi _) rfl (bfA_one _ _) ?_))
  generalize hw0 : World.setRow _ _ _ = w0
  have hA : DgAt w0 w.heap.size 16 25 (dig v) := by subst hw0; unfold DgAt; rw [setRow_other _ _ _ _ (by omega)]; exact new3_0 w _ _ _
  have hR : ByAt w0 (w.heap.size + 1) 32 22 (fun _ => 0) := by subst hw0; unfold ByAt; rw [setRow_other _ _ _ _ (by omega)]; exact new3_1 w _ _ _
  have hO : ByAt w0 (w.heap.size + 1 + 1) 32 22 (fun _ => 0) := by subst hw0; exact setRow_heap _ _ _ _ _ _ (new3_2 w _ _ _)
  have hL : Below w.heap.size w w0 := by subst hw0; exact (below3 w _ _ _).trans ((only_setRow _ _ _).below (by omega) (by simp; omega))
  clear hw0
  obtain ⟨n, hn⟩ : ∃ n, w.heap.size = n := ⟨_, rfl⟩
  have HN := Lib.hid hn
  rw [hn] at hA hR hO hL ⊢
  clear hn
  go_loopw [6] (fun i wr => ∃ k : Nat, k ≤ 32 ∧ i = .int .i64 k ∧ DgAt wr n 16 25 (dig v) ∧ ByAt wr (n + 1) 32 22 (fun _ => 0) ∧ ByAt wr (n + 1 + 1) 32 22 (fun j => if j < k then byt v j else 0) ∧ Below n w wr) (fun i _ => 32 - (intOf i).toNat)
  case atStart => exact ⟨0, by omega, rfl, hA, hR, hO.congr (by simp), hL⟩
  case round =>
    obtain ⟨k, hk, rfl, hA, hR, hO, hL⟩ := hrel
    rcases (show k < 32 ∨ k = 32 by omega) with hlt | rfl
    · have cA : wr.cell? ⟨n, k / 2, none⟩ = some (.int .u64 (dig v (k / 2) : Nat)) := hA.cell (by omega)
      have cO : wr.cell? ⟨n + 1 + 1, k, none⟩ = some (.int .u8 (0 : Nat)) := by have := hO.cell hlt; simpa using this
      have fO : wr.frozen? ⟨n + 1 + 1, k, none⟩ = false := hO.frozen k
      have dA := dig_lt v (k / 2)
      have HA := Lib.hid hA
      have HR := Lib.hid hR
      have HO := Lib.hid hO
      have HL := Lib.hid hL
      clear hA hR hO hL
      have hbx := byt_dig v k
      have BX := Lib.hid hbx
      clear hbx
      generalize dig v (k / 2) = x at *
      go_wp2_with fail
      have e1 : (x : Int) / 2 ^ (8 * (k % 2)) % 256 = ((byt v k : Nat) : Int) := by rw [BX.out]; exact_mod_cast rfl
      rw [e1]
      exact ⟨⟨k + 1, by omega, by simp, HA.out.set_other (by dsimp only; omega) _, HR.out.set_other (by dsimp only; omega) _, (HO.out.set k _).congr (fun i _ => upd_upTo _ k i), HL.out.setCell (by dsimp only; omega) _⟩, by simp [intOf]; omega⟩
    · have hO2 : ByAt wr (n + 1 + 1) 32 22 (byt v) := hO.congr (fun i hi => by simp only [hi, if_true])
      have HR := Lib.hid hR
      have HO := Lib.hid hO2
      have HL := Lib.hid hL
      clear hA hR hO hL hO2
      go_wp2_with (first
        | (refine wpList_load_row (o := ⟨some 21, _, _, _, _, _⟩) rfl 22 _ rfl _ rfl _ _ _ _ HO.out hu rfl (hi _) ?_)
        | (refine wpList_store_row (o := ⟨none, .store 22 _ _, _, _, _, _⟩) rfl 22 _ _ rfl _ _ rfl rfl _ _ HR.out (hi _) (by rw [bfA_size, bfA_size]) (bfA_one _ _) ?_))
      (try simp only [Exit.inBlock, Exit.then])
      refine bodyPost_ret (results_cell_row rfl _ _ _ _ _ _ _ rfl (setRow_heap _ _ _ _ _ _ HR.out) hu rfl (hi _)) rfl ?_
      exact ⟨rfl, by rw [HN.out]; exact HL.out.trans ((only_setRow _ _ _).below (by omega) (by have := HR.out.lt; omega))⟩
end Go.Proofs.YteehdjkmjncehaaDoor
