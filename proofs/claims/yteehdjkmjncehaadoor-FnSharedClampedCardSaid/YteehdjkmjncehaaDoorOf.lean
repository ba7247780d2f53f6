
/-
  spec.Of: the number of 32 bytes.
-/
import Derived.Test.YteehdjkmjncehaaDoorSettle
namespace Go.Proofs.YteehdjkmjncehaaDoor
open Go.RowKit
/-- The digits behind k bytes. -/
def ofK (v k j : Nat) : Nat := if k ≤ 2 * j then 0 else if k = 2 * j + 1 then byt v (2 * j) else dig v j
theorem byt_lt (v i : Nat) : byt v i < 256 := Nat.mod_lt _ (by decide)
theorem dig_byt (v j : Nat) : dig v j = byt v (2 * j) + 256 * byt v (2 * j + 1) := by
  unfold dig byt
  rw [Nat.pow_succ, ← Nat.div_div_eq_div_mul, Nat.pow_mul, show 256 ^ 2 = 65536 from rfl]
  omega
theorem ofK_step (v k : Nat) : ofK v (k + 1) (k / 2) = ofK v k (k / 2) + byt v k * 2 ^ (8 * (k % 2)) := by
  obtain ⟨q, r, hr, rfl⟩ : ∃ q r, r < 2 ∧ k = 2 * q + r := ⟨k / 2, k % 2, Nat.mod_lt _ (by decide), by omega⟩
  have e1 : (2 * q + r) / 2 = q := by omega
  have e2 : (2 * q + r) % 2 = r := by omega
  rw [e1, e2]
  unfold ofK
  have := dig_byt v q
  rcases (show r = 0 ∨ r = 1 by omega) with rfl | rfl
  · rw [if_neg (by omega), if_pos (by omega), if_pos (by omega)]; simp
  · rw [if_neg (by omega), if_neg (by omega), if_neg (by omega), if_pos (by omega)]
    omega
theorem ofK_other (v k j : Nat) (h : j ≠ k / 2) : ofK v (k + 1) j = ofK v k j := by
  unfold ofK
  by_cases h1 : k ≤ 2 * j
  · rw [if_pos (by omega), if_pos h1]
  · rw [if_neg (by omega), if_neg h1, if_neg (by omega), if_neg (by omega)]
theorem ofK_upd (v k i : Nat) : upd (ofK v k) (k / 2) (ofK v (k + 1) (k / 2)) i = ofK v (k + 1) i := by
  unfold upd
  by_cases h : i = k / 2
  · rw [if_pos h, h]
  · rw [if_neg h, ofK_other _ _ _ h]
theorem ofK_lt (v k : Nat) : ofK v k (k / 2) < 256 := by
  unfold ofK
  have := byt_lt v (2 * (k / 2))
  split
  · omega
  · split
    · omega
    · omega
set_option maxRecDepth 100000 in
set_option maxHeartbeats 800000 in
theorem of23 (v : Nat) : Pure Tryd.prog 10 #[byV 32 v] (nV v) := by
  intro w
  unfold nV dgV byV
  have hu := Tryd.underlying25
  have hu2 := Tryd.underlying22
  have hi : ∀ f, (Tryd.prog.info? 25).map (·.size) = some (dgA 16 f).size := by intro f; rw [dgA_size]; kernel_rfl
  have hi2 : ∀ f, (Tryd.prog.info? 22).map (·.size) = some (bfA 32 f).size := by intro f; rw [bfA_size]; kernel_rfl
  go_enter Tryd.func10, Tryd.ntmps10
  go_wp2_with (first
    | (refine wpList_store_row (o := ⟨none, .store 25 _ _, _, _, _, _⟩) rfl 25 _ _ rfl (w.heap.size + 1 + 1) (dgA 16 (fun _ => 0)) rfl rfl _ _ (new3_2 _ _ _ _) (hi _) rfl (dgA_one _ _) ?_)
    | (refine wpList_load_row (o := ⟨some 7, _, _, _, _, _⟩) rfl 22 _ rfl w.heap.size rfl _ (bfA 32 (byt v)) _ _ (by rw [setRow_other _ _ _ _ (by omega)]; exact new3_0 w _ _ _) hu2 rfl (hi2 _) ?_))
  generalize hw0 : World.setRow _ _ _ = w0
  have hR : DgAt w0 (w.heap.size + 1) 16 25 (fun _ => 0) := by subst hw0; unfold DgAt; rw [setRow_other _ _ _ _ (by omega)]; exact new3_1 w _ _ _
  have hO : DgAt w0 (w.heap.size + 1 + 1) 16 25 (fun _ => 0) := by subst hw0; exact setRow_heap _ _ _ _ _ _ (new3_2 w _ _ _)
  have hL : Below w.heap.size w w0 := by subst hw0; exact (below3 w _ _ _).trans ((only_setRow _ _ _).below (by omega) (by simp; omega))
  clear hw0
  obtain ⟨n, hn⟩ : ∃ n, w.heap.size = n := ⟨_, rfl⟩
  have HN := Lib.hid hn
  rw [hn] at hR hO hL ⊢
  clear hn
  go_loopw [8] (fun i wr => ∃ k : Nat, k ≤ 32 ∧ i = .int .i64 k ∧ DgAt wr (n + 1) 16 25 (fun _ => 0) ∧ DgAt wr (n + 1 + 1) 16 25 (ofK v k) ∧ Below n w wr) (fun i _ => 32 - (intOf i).toNat)
  case atStart => exact ⟨0, by omega, rfl, hR, hO.congr (fun i _ => by simp [ofK]), hL⟩
  case round =>
    obtain ⟨k, hk, rfl, hR, hO, hL⟩ := hrel
    rcases (show k < 32 ∨ k = 32 by omega) with hlt | rfl
    · have cO : wr.cell? ⟨n + 1 + 1, k / 2, none⟩ = some (.int .u64 (ofK v k (k / 2) : Nat)) := hO.cell (by omega)
      have fO : wr.frozen? ⟨n + 1 + 1, k / 2, none⟩ = false := hO.frozen _
      have dO := ofK_lt v k
      have dB := byt_lt v k
      have e1 := ofK_step v k
      have E1 := Lib.hid e1
      have hix : (Instr.index 22 (.agg (bfA 32 (byt v))) (.int .i64 (k : Int))).run Tryd.prog wr = .ok (.int .u8 (byt v k : Nat)) wr := run_index_one hu2 Tryd.underlying5 (by kernel_rfl) hlt (bfA_get hlt) wr
      have HR := Lib.hid hR
      have HO := Lib.hid hO
      have HL := Lib.hid hL
      clear hR hO hL e1
      generalize ofK v k (k / 2) = x at *
      generalize byt v k = y at *
      go_wp2_with fail
      go_region
      go_wp2_with fail
      have e1 : IntKind.u64.wrap ((x : Int) + IntKind.u64.wrap ((y : Int) * 2 ^ (8 * (k % 2)))) = ((ofK v (k + 1) (k / 2) : Nat) : Int) := by
        rw [E1.out]
        rcases (show k % 2 = 0 ∨ k % 2 = 1 by omega) with h | h
        · rw [h, IntKind.wrap_u64, IntKind.wrap_u64]; simp; omega
        · rw [h, IntKind.wrap_u64, IntKind.wrap_u64]; simp; omega
      rw [e1]
      exact ⟨⟨k + 1, by omega, by simp, HR.out.set_other (by dsimp only; omega) _, (HO.out.set (k / 2) _).congr (fun i _ => ofK_upd v k i), (HL.out.setCell (by dsimp only; omega) _).drew⟩, by simp [intOf]; omega⟩
    · have hO2 : DgAt wr (n + 1 + 1) 16 25 (dig v) := hO.congr (fun i hi => by unfold ofK; rw [if_neg (by omega), if_neg (by omega)])
      have HR := Lib.hid hR
      have HO := Lib.hid hO2
      have HL := Lib.hid hL
      clear hR hO hL hO2
      go_wp2_with (first
        | (refine wpList_load_row (o := ⟨some 27, _, _, _, _, _⟩) rfl 25 _ rfl _ rfl _ _ _ _ HO.out hu rfl (hi _) ?_)
        | (refine wpList_store_row (o := ⟨none, .store 25 _ _, _, _, _, _⟩) rfl 25 _ _ rfl _ _ rfl rfl _ _ HR.out (hi _) (by rw [dgA_size, dgA_size]) (dgA_one _ _) ?_))
      (try simp only [Exit.inBlock, Exit.then])
      refine bodyPost_ret (results_cell_row rfl _ _ _ _ _ _ _ rfl (setRow_heap _ _ _ _ _ _ HR.out) hu rfl (hi _)) rfl ?_
      exact ⟨rfl, by rw [HN.out]; exact HL.out.trans ((only_setRow _ _ _).below (by omega) (by have := HR.out.lt; omega))⟩
end Go.Proofs.YteehdjkmjncehaaDoor
