
/-
  spec.Mul.
-/
import Derived.Test.YteehdjkmjncehaaDoorSmul
namespace Go.Proofs.YteehdjkmjncehaaDoor
open Go.RowKit
set_option maxRecDepth 100000 in
set_option maxHeartbeats 1600000 in
theorem mul34 (a b : Nat) (ha : a < 2 ^ 256) (hb : b < 2 ^ 256) : Pure Tryd.prog 38 #[nV a, nV b] (nV (a * b % p25)) := by
  intro w
  have hs := settle47 (fun i => psum a b 16 i + 38 * psum a b 16 (i + 16)) (fun i _ => by
    have h1 := psum_le a b i 16
    have h2 := psum_le a b (i + 16) 16
    omega)
  rw [mul_digits a b ha hb] at hs
  have hp := product55 a b
  generalize a * b % p25 = r at *
  unfold nV dgV at *
  have hu := Tryd.underlying25
  have hu2 := Tryd.underlying60
  have hi : ∀ f, (Tryd.prog.info? 25).map (·.size) = some (dgA 16 f).size := by intro f; rw [dgA_size]; kernel_rfl
  have hi2 : ∀ f, (Tryd.prog.info? 60).map (·.size) = some (dgA 32 f).size := by intro f; rw [dgA_size]; kernel_rfl
  have HS := Lib.hid hs
  have HP := Lib.hid hp
  clear hs hp
  go_enter Tryd.func38, Tryd.ntmps38
  go_wp2_with (first
    | (refine wpList_load_row (o := ⟨some 8, _, _, _, _, _⟩) rfl 25 _ rfl _ rfl _ _ _ _ (new3_0 w _ _ _) hu rfl (hi _) ?_)
    | (refine wpList_load_row (o := ⟨some 9, _, _, _, _, _⟩) rfl 25 _ rfl _ rfl _ _ _ _ (new3_1 w _ _ _) hu rfl (hi _) ?_)
    | (go_at_call 54; refine (HP.out _).mono ?_; rintro e w1 ⟨rfl, hb1⟩
       have hR1 : DgAt w1 (w.heap.size + 1 + 1) 16 25 (fun _ => 0) := DgAt.below (new3_2 w _ _ _) hb1 (by simp)
       have hL1 := (below3 w _ _ _).trans (hb1.mono (by simp; omega))
       have HR1 := Lib.hid hR1
       have HL1 := Lib.hid hL1
       clear hR1 hL1 hb1)
    | (refine wpList_store_row (o := ⟨none, .store 60 _ _, _, _, _, _⟩) rfl 60 _ _ rfl w1.heap.size _ rfl rfl _ _ (heap_alloc_new _ _) (hi2 _) rfl (dgA_one _ _) ?_))
  have hlt1 := HR1.out.lt
  generalize hw2 : World.alloc (World.setRow _ _ _) _ = w2
  have hD : DgAt w2 w1.heap.size 32 60 (psum a b 16) := by
    subst hw2; unfold DgAt
    rw [heap_alloc_old _ _ (by simp)]
    exact setRow_heap _ _ _ _ _ _ (heap_alloc_new _ _)
  have hO : DgAt w2 (w1.heap.size + 1) 16 25 (fun _ => 0) := by
    subst hw2; unfold DgAt
    have h := heap_alloc_new (World.setRow (w1.alloc (Obj.cells (dgA 32 (fun _ => 0)) 60)) w1.heap.size (dgA 32 (psum a b 16))) (Obj.cells (dgA 16 (fun _ => 0)) 25)
    have e : (World.setRow (w1.alloc (Obj.cells (dgA 32 (fun _ => 0)) 60)) w1.heap.size (dgA 32 (psum a b 16))).heap.size = w1.heap.size + 1 := by simp
    rw [e] at h
    exact h
  have hB2 : Below w1.heap.size w1 w2 := by
    subst hw2
    exact (((Below.refl _ _).alloc (Nat.le_refl _) _).trans ((only_setRow _ _ _).below (by omega) (by simp))).alloc (by simp) _
  have hR : DgAt w2 (w.heap.size + 1 + 1) 16 25 (fun _ => 0) := HR1.out.below hB2 hlt1
  have hL : Below w.heap.size w w2 := HL1.out.trans (hB2.mono (by omega))
  clear hw2 hB2 HR1 HL1
  obtain ⟨n, hn⟩ : ∃ n, w.heap.size = n := ⟨_, rfl⟩
  have HN := Lib.hid hn
  rw [hn] at hR hL hlt1 ⊢
  clear hn
  obtain ⟨p, hp⟩ : ∃ p, w1.heap.size = p := ⟨_, rfl⟩
  rw [hp] at hD hO hlt1 ⊢
  clear hp
  clear w1
  go_loopw [12] (fun i wr => ∃ k : Nat, k ≤ 16 ∧ i = .int .i64 k ∧ DgAt wr p 32 60 (psum a b 16) ∧ DgAt wr (n + 1 + 1) 16 25 (fun _ => 0) ∧ DgAt wr (p + 1) 16 25 (fun m => if m < k then psum a b 16 m + 38 * psum a b 16 (m + 16) else 0) ∧ Below n w wr) (fun i _ => 16 - (intOf i).toNat)
  case atStart => exact ⟨0, by omega, rfl, hD, hR, hO.congr (by simp), hL⟩
  case round =>
    clear hD hR hO hL
    obtain ⟨k, hk, rfl, hD, hR, hO, hL⟩ := hrel
    rcases (show k < 16 ∨ k = 16 by omega) with hlt | rfl
    · have cD : wr.cell? ⟨p, k, none⟩ = some (.int .u64 (psum a b 16 k : Nat)) := hD.cell (by omega)
      have cD2 : wr.cell? ⟨p, k + 16, none⟩ = some (.int .u64 (psum a b 16 (k + 16) : Nat)) := hD.cell (by omega)
      have cO : wr.cell? ⟨p + 1, k, none⟩ = some (.int .u64 (0 : Nat)) := by have := hO.cell hlt; simpa using this
      have fO : wr.frozen? ⟨p + 1, k, none⟩ = false := hO.frozen k
      have d1 : psum a b 16 k < 80000000000 := by have := psum_le a b k 16; omega
      have d2 : psum a b 16 (k + 16) < 80000000000 := by have := psum_le a b (k + 16) 16; omega
      have hup := upd_upTo (fun m => psum a b 16 m + 38 * psum a b 16 (m + 16)) k
      have HU := Lib.hid hup
      have HD := Lib.hid hD
      have HR := Lib.hid hR
      have HO := Lib.hid hO
      have HL := Lib.hid hL
      clear hD hR hO hL hup
      obtain ⟨x, hx⟩ : ∃ x, psum a b 16 k = x := ⟨_, rfl⟩
      obtain ⟨y, hy⟩ : ∃ y, psum a b 16 (k + 16) = y := ⟨_, rfl⟩
      rw [hx] at cD d1
      rw [hy] at cD2 d2
      rw [hx, hy] at HU
      clear hx hy
      go_wp2_with fail
      go_region
      go_wp2_with fail
      have e1 : (x : Int) + 38 * (y : Int) = ((x + 38 * y : Nat) : Int) := by omega
      rw [e1]
      exact ⟨⟨k + 1, by omega, by simp, HD.out.set_other (by dsimp only; omega) _, HR.out.set_other (by dsimp only; omega) _, (HO.out.set k _).congr (fun i _ => HU.out i), (HL.out.setCell (by dsimp only; omega) _).drew⟩, by simp [intOf]; omega⟩
    · have hO2 : DgAt wr (p + 1) 16 25 (fun m => psum a b 16 m + 38 * psum a b 16 (m + 16)) := hO.congr (fun i hi => by simp only [hi, if_true])
      have HR := Lib.hid hR
      have HO := Lib.hid hO2
      have HL := Lib.hid hL
      clear hD hR hO hL hO2
      go_wp2_with (first
        | (refine wpList_load_row (o := ⟨some 27, _, _, _, _, _⟩) rfl 25 _ rfl _ rfl _ _ _ _ HO.out hu rfl (hi _) ?_)
        | (go_at_call 30; refine (HS.out _).mono ?_; rintro e w3 ⟨rfl, hb3⟩; have HB3 := Lib.hid hb3; clear hb3)
        | (refine wpList_store_row (o := ⟨none, .store 25 _ _, _, _, _, _⟩) rfl 25 _ _ rfl _ _ rfl rfl _ _ (HR.out.below HB3.out HR.out.lt) (hi _) (by rw [dgA_size, dgA_size]) (dgA_one _ _) ?_))
      (try simp only [Exit.inBlock, Exit.then])
      have hR1 := HR.out.below HB3.out HR.out.lt
      refine bodyPost_ret (results_cell_row rfl _ _ _ _ _ _ _ rfl (setRow_heap _ _ _ _ _ _ hR1) hu rfl (hi _)) rfl ?_
      exact ⟨rfl, by rw [HN.out]; exact (HL.out.trans (HB3.out.mono (by have := HR.out.lt; omega))).trans ((only_setRow _ _ _).below (by omega) (by have := hR1.lt; omega))⟩
end Go.Proofs.YteehdjkmjncehaaDoor
