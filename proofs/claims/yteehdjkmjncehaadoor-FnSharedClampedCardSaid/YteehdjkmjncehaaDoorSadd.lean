
/-
  spec.Add, spec.Neg, spec.Sub, spec.Small, laws.is.
-/
import Derived.Test.YteehdjkmjncehaaDoorSpec
import Derived.Test.YteehdjkmjncehaaDoorOf
namespace Go.Proofs.YteehdjkmjncehaaDoor
open Go.RowKit
theorem sumF_add (f g : Nat → Nat) : ∀ n, sumF (fun i => f i + g i) n = sumF f n + sumF g n
  | 0 => rfl
  | n + 1 => by simp only [sumF, sumF_add f g n, Nat.add_mul]; omega
theorem sum_dig16 {a : Nat} (h : a < 2 ^ 256) : sumF (dig a) 16 = a := by
  rw [sum_dig, Nat.mod_eq_of_lt (Nat.lt_of_lt_of_eq h (by decide +kernel))]
set_option maxRecDepth 100000 in
set_option maxHeartbeats 1600000 in
theorem add30 (a b : Nat) (ha : a < 2 ^ 256) (hb : b < 2 ^ 256) : Pure Tryd.prog 52 #[nV a, nV b] (nV ((a + b) % p25)) := by
  intro w
  unfold nV dgV
  have hu := Tryd.underlying25
  have hi : ∀ f, (Tryd.prog.info? 25).map (·.size) = some (dgA 16 f).size := by intro f; rw [dgA_size]; kernel_rfl
  have hs := settle47 (fun i => dig a i + dig b i) (fun i _ => Nat.lt_trans (Nat.add_lt_add (dig_lt a i) (dig_lt b i)) (by decide))
  rw [sumF_add, sum_dig16 ha, sum_dig16 hb] at hs
  have HS := Lib.hid hs
  clear hs
  go_enter Tryd.func52, Tryd.ntmps52
  go_wp2_with fail
  obtain ⟨w0, hw0⟩ : ∃ w0, w0 = (((w.alloc (Obj.cells (dgA 16 (dig a)) 25)).alloc (Obj.cells (dgA 16 (dig b)) 25)).alloc (Obj.cells (dgA 16 (fun _ => 0)) 25)) := ⟨_, rfl⟩
  have hA : DgAt w0 w.heap.size 16 25 (dig a) := by subst hw0; exact new3_0 w _ _ _
  have hB : DgAt w0 (w.heap.size + 1) 16 25 (dig b) := by subst hw0; exact new3_1 w _ _ _
  have hR : DgAt w0 (w.heap.size + 1 + 1) 16 25 (fun _ => 0) := by subst hw0; exact new3_2 w _ _ _
  have hL : Below w.heap.size w w0 := by subst hw0; exact below3 w _ _ _
  change Code.wp _ _ _ _ (((w.alloc (Obj.cells (dgA 16 (dig a)) 25)).alloc (Obj.cells (dgA 16 (dig b)) 25)).alloc (Obj.cells (dgA 16 (fun _ => 0)) 25))
  rw [← hw0]
  clear hw0
  obtain ⟨n, hn⟩ : ∃ n, w.heap.size = n := ⟨_, rfl⟩
  have HN := Lib.hid hn
  rw [hn] at hA hB hR hL ⊢
  clear hn
  go_loopw [6] (fun i wr => ∃ k : Nat, k ≤ 16 ∧ i = .int .i64 k ∧ DgAt wr n 16 25 (fun j => if j < k then dig a j + dig b j else dig a j) ∧ DgAt wr (n + 1) 16 25 (dig b) ∧ DgAt wr (n + 1 + 1) 16 25 (fun _ => 0) ∧ Below n w wr) (fun i _ => 16 - (intOf i).toNat)
  case atStart => exact ⟨0, by omega, rfl, hA.congr (by simp), hB, hR, hL⟩
  case round =>
    obtain ⟨k, hk, rfl, hA, hB, hR, hL⟩ := hrel
    rcases (show k < 16 ∨ k = 16 by omega) with hlt | rfl
    · have cA : wr.cell? ⟨n, k, none⟩ = some (.int .u64 (dig a k : Nat)) := by have := hA.cell hlt; simpa using this
      have cB : wr.cell? ⟨n + 1, k, none⟩ = some (.int .u64 (dig b k : Nat)) := hB.cell hlt
      have fA : wr.frozen? ⟨n, k, none⟩ = false := hA.frozen k
      have dA := dig_lt a k
      have dB := dig_lt b k
      have HA := Lib.hid hA
      have HB := Lib.hid hB
      have HR := Lib.hid hR
      have HL := Lib.hid hL
      clear hA hB hR hL
      have hup := upd_over (fun j => dig a j + dig b j) (dig a) k
      have HU := Lib.hid hup
      clear hup
      obtain ⟨x, hx⟩ : ∃ x, dig a k = x := ⟨_, rfl⟩
      obtain ⟨y, hy⟩ : ∃ y, dig b k = y := ⟨_, rfl⟩
      rw [hx] at cA dA
      rw [hy] at cB dB
      have HX := Lib.hid hx
      have HY := Lib.hid hy
      clear hx hy
      go_wp2_with fail
      go_region
      go_wp2_with fail
      have e1 : ((x : Int) + y) = ((dig a k + dig b k : Nat) : Int) := by rw [HX.out, HY.out]; omega
      rw [e1]
      exact ⟨⟨k + 1, by omega, by simp, (HA.out.set k _).congr (fun i _ => HU.out i), HB.out.set_other (by dsimp only; omega) _, HR.out.set_other (by dsimp only; omega) _, (HL.out.setCell (by dsimp only; omega) _).drew⟩, by simp [intOf]; omega⟩
    · have hA2 : DgAt wr n 16 25 (fun i => dig a i + dig b i) := hA.congr (fun i hi => by simp only [hi, if_true])
      have HR := Lib.hid hR
      have HA := Lib.hid hA2
      have HL := Lib.hid hL
      clear hA hB hR hL hA2
      go_wp2_with (first
        | (refine wpList_load_row (o := ⟨some 19, _, _, _, _, _⟩) rfl 25 _ rfl _ rfl _ _ _ _ HA.out hu rfl (hi _) ?_)
        | (go_at_call 30; refine (HS.out _).mono ?_; rintro e w1 ⟨rfl, hb1⟩; have HB1 := Lib.hid hb1; clear hb1)
        | (refine wpList_store_row (o := ⟨none, .store 25 _ _, _, _, _, _⟩) rfl 25 _ _ rfl _ _ rfl rfl _ _ (HR.out.below HB1.out HR.out.lt) (hi _) (by rw [dgA_size, dgA_size]) (dgA_one _ _) ?_))
      (try simp only [Exit.inBlock, Exit.then])
      have hR1 := HR.out.below HB1.out HR.out.lt
      refine bodyPost_ret (results_cell_row rfl _ _ _ _ _ _ _ rfl (setRow_heap _ _ _ _ _ _ hR1) hu rfl (hi _)) rfl ?_
      exact ⟨rfl, by rw [HN.out]; exact (HL.out.trans (HB1.out.mono (by have := HR.out.lt; omega))).trans ((only_setRow _ _ _).below (by omega) (by have := hR1.lt; omega))⟩
theorem run_eq_zero (v : Nat) (hv : v < 2 ^ 256) (w : World) : (binOp .eql 25 (.agg (dgA 16 (dig v))) (.agg (dgA 16 (fun _ => 0)))).run Tryd.prog w = .ok (.bool (decide (v = 0))) w := by
  rw [run_eql_ints 25 23 .u64 16 _ _ (fun i => ((dig v i : Nat) : Int)) (fun _ => 0) Tryd.underlying25 Tryd.underlying23 (by kernel_rfl) (fun i hi => dgA_get hi) (fun i hi => dgA_get hi) w]
  congr 2
  rw [Bool.eq_iff_iff]
  simp only [decide_eq_true_eq]
  refine ⟨fun h => ?_, fun h => by subst h; intro i _; simp [dig]⟩
  have e := sum_dig16 hv
  rw [sumF_congr (g := fun _ => 0) (fun i hi => by have := h i hi; omega)] at e
  rw [← e]
  decide
theorem zeros16 : dgA 16 (fun _ => 0) = #[Value.int IntKind.u64 0, Value.int IntKind.u64 0, Value.int IntKind.u64 0, Value.int IntKind.u64 0, Value.int IntKind.u64 0, Value.int IntKind.u64 0, Value.int IntKind.u64 0, Value.int IntKind.u64 0, Value.int IntKind.u64 0, Value.int IntKind.u64 0, Value.int IntKind.u64 0, Value.int IntKind.u64 0, Value.int IntKind.u64 0, Value.int IntKind.u64 0, Value.int IntKind.u64 0, Value.int IntKind.u64 0] := rfl
set_option maxRecDepth 100000 in
set_option maxHeartbeats 1600000 in
theorem neg53 (a : Nat) (ha : a < 2 ^ 256) : Pure Tryd.prog 23 #[nV a] (nV ((p25 - a % p25) % p25)) := by
  intro w
  have hp0 : 0 < p25 := by decide +kernel
  have hm := Nat.mod_lt a hp0
  have hs := settle47 (dig a) (fun i _ => Nat.lt_trans (dig_lt a i) (by decide))
  rw [sum_dig16 ha] at hs
  generalize a % p25 = m at *
  unfold nV dgV
  have hu := Tryd.underlying25
  have hi : ∀ f, (Tryd.prog.info? 25).map (·.size) = some (dgA 16 f).size := by intro f; rw [dgA_size]; kernel_rfl
  have hi' : ∀ f, (Tryd.prog.info? 25).map (·.size) = some (dgL 16 f).length := by intro f; rw [hi f, List.size_toArray]
  have HS := Lib.hid hs
  clear hs
  have hmq : m < 2 ^ 256 := Nat.lt_trans hm p25_lt
  have hz := run_eq_zero m hmq
  rw [zeros16] at hz
  obtain ⟨n, hn⟩ : ∃ n, w.heap.size = n := ⟨_, rfl⟩
  have HN := Lib.hid hn
  obtain ⟨t, ht⟩ : ∃ t, decide (m = 0) = t := ⟨_, rfl⟩
  rw [ht] at hz
  have HT := Lib.hid ht
  clear hn ht
  cases t
  · go_enter Tryd.func23, Tryd.ntmps23
    go_wp2_with (first
      | (refine wpList_load_row (o := ⟨some 3, _, _, _, _, _⟩) rfl 25 _ rfl _ rfl _ _ _ _ (heap_alloc2_old w _ _) hu rfl (hi _) ?_)
      | (go_at_call 30; refine (HS.out _).mono ?_; rintro e w1 ⟨rfl, hb1⟩
         have hA1 : DgAt w1 w.heap.size 16 25 (dig a) := DgAt.below (heap_alloc2_old w _ _) hb1 (by simp; omega)
         have hR1 : DgAt w1 (w.heap.size + 1) 16 25 (fun _ => 0) := DgAt.below (heap_alloc2_new w _ _) hb1 (by simp)
         have hL1 := (below2 w _ _).trans (hb1.mono (by simp; omega))
         have HA1 := Lib.hid hA1
         have HR1 := Lib.hid hR1
         have HL1 := Lib.hid hL1
         clear hA1 hR1 hL1 hb1)
      | (refine wpList_store_row (o := ⟨none, .store 25 _ _, _, _, _, _⟩) rfl 25 _ _ rfl w.heap.size _ rfl rfl _ _ HA1.out (hi _) (by rw [dgA_size, dgA_size]) (dgA_one _ _) ?_
         have hA2 : DgAt (w1.setRow w.heap.size (dgA 16 (dig m))) w.heap.size 16 25 (dig m) := setRow_heap _ _ _ _ _ _ HA1.out
         have hR2 : DgAt (w1.setRow w.heap.size (dgA 16 (dig m))) (w.heap.size + 1) 16 25 (fun _ => 0) := by unfold DgAt; rw [setRow_other _ _ _ _ (by omega)]; exact HR1.out
         have hL2 : Below w.heap.size w (w1.setRow w.heap.size (dgA 16 (dig m))) := HL1.out.trans ((only_setRow _ _ _).below (by omega) (Nat.le_of_lt HA1.out.lt))
         generalize w1.setRow w.heap.size (dgA 16 (dig m)) = w2 at *
         have HA2 := Lib.hid hA2
         have HR2 := Lib.hid hR2
         have HL2 := Lib.hid hL2
         clear hA2 hR2 hL2)
      | (refine wpList_load_row (o := ⟨some 5, _, _, _, _, _⟩) rfl 25 _ rfl _ rfl _ _ _ _ HA2.out hu rfl (hi _) ?_))
    have hne : m ≠ 0 := by have := HT.out; simpa using this
    have hrB : w2.rangeAt w.heap.size 0 (dgL 16 (dig m)) := HA2.out.range
    refine wp_region_steady_tail 3 (Since w2) (by kernel_rfl) (by kernel_rfl) (Since.drew _) ?_
    simp only [List.take, List.drop]
    refine wpSL_call (by rfl) (fun w => by go_simp) (Pure.since p65) ?_
    simp only [Act.put, List.setIfInBounds_toArray, List.set_cons_zero, List.set_cons_succ]
    refine wpSL_load (by rfl) _ _ rfl _ _ rfl _ _ (fun w hw => hw.range hrB HA2.out.lt) hu rfl (hi' _) ?_
    simp only [Act.put, List.setIfInBounds_toArray, List.set_cons_zero, List.set_cons_succ]
    refine wpSL_call (by rfl) (fun w => by go_simp) (Pure.since (minus69 p25 m (Nat.le_of_lt hm))) ?_
    simp only [Act.put, List.setIfInBounds_toArray, List.set_cons_zero, List.set_cons_succ]
    refine wpSL_nil ?_
    intro w3 hw3
    have hR1 := HR2.out.below hw3 HR2.out.lt
    have hL1 := HL2.out.trans (hw3.mono (Nat.le_of_lt HA2.out.lt))
    have HR := Lib.hid hR1
    have HL := Lib.hid hL1
    clear hR1 hL1 hw3 hrB
    have he : (p25 - m) % p25 = p25 - m := Nat.mod_eq_of_lt (by omega)
    have HE := Lib.hid he
    clear he
    go_wp2_with (first
      | (refine wpList_store_row (o := ⟨none, .store 25 _ _, _, _, _, _⟩) rfl 25 _ _ rfl _ _ rfl rfl _ _ HR.out (hi _) (by rw [dgA_size, dgA_size]) (dgA_one _ _) ?_))
    (try simp only [Exit.inBlock, Exit.then])
    refine bodyPost_ret (results_cell_row rfl _ _ _ _ _ _ _ rfl (setRow_heap _ _ _ _ _ _ HR.out) hu rfl (hi _)) rfl ?_
    exact ⟨by rw [HE.out], HL.out.trans ((only_setRow _ _ _).below (by omega) (by have := HR.out.lt; omega))⟩
  · go_enter Tryd.func23, Tryd.ntmps23
    go_wp2_with (first
      | (refine wpList_load_row (o := ⟨some 3, _, _, _, _, _⟩) rfl 25 _ rfl _ rfl _ _ _ _ (heap_alloc2_old w _ _) hu rfl (hi _) ?_)
      | (go_at_call 30; refine (HS.out _).mono ?_; rintro e w1 ⟨rfl, hb1⟩
         have hA1 : DgAt w1 w.heap.size 16 25 (dig a) := DgAt.below (heap_alloc2_old w _ _) hb1 (by simp; omega)
         have hR1 : DgAt w1 (w.heap.size + 1) 16 25 (fun _ => 0) := DgAt.below (heap_alloc2_new w _ _) hb1 (by simp)
         have hL1 := (below2 w _ _).trans (hb1.mono (by simp; omega))
         have HA1 := Lib.hid hA1
         have HR1 := Lib.hid hR1
         have HL1 := Lib.hid hL1
         clear hA1 hR1 hL1 hb1)
      | (refine wpList_store_row (o := ⟨none, .store 25 _ _, _, _, _, _⟩) rfl 25 _ _ rfl w.heap.size _ rfl rfl _ _ HA1.out (hi _) (by rw [dgA_size, dgA_size]) (dgA_one _ _) ?_
         have hA2 : DgAt (w1.setRow w.heap.size (dgA 16 (dig m))) w.heap.size 16 25 (dig m) := setRow_heap _ _ _ _ _ _ HA1.out
         have hR2 : DgAt (w1.setRow w.heap.size (dgA 16 (dig m))) (w.heap.size + 1) 16 25 (fun _ => 0) := by unfold DgAt; rw [setRow_other _ _ _ _ (by omega)]; exact HR1.out
         have hL2 : Below w.heap.size w (w1.setRow w.heap.size (dgA 16 (dig m))) := HL1.out.trans ((only_setRow _ _ _).below (by omega) (Nat.le_of_lt HA1.out.lt))
         generalize w1.setRow w.heap.size (dgA 16 (dig m)) = w2 at *
         have HA2 := Lib.hid hA2
         have HR2 := Lib.hid hR2
         have HL2 := Lib.hid hL2
         clear hA2 hR2 hL2)
      | (refine wpList_load_row (o := ⟨some 5, _, _, _, _, _⟩) rfl 25 _ rfl _ rfl _ _ _ _ HA2.out hu rfl (hi _) ?_)
      | (refine wpList_load_row (o := ⟨some 8, _, _, _, _, _⟩) rfl 25 _ rfl _ rfl _ _ _ _ HA2.out hu rfl (hi _) ?_)
      | (refine wpList_store_row (o := ⟨none, .store 25 _ _, _, _, _, _⟩) rfl 25 _ _ rfl (w.heap.size + 1) _ rfl rfl _ _ HR2.out (hi _) (by rw [dgA_size, dgA_size]) (dgA_one _ _) ?_))
    (try simp only [Exit.inBlock, Exit.then])
    refine bodyPost_ret (results_cell_row rfl _ _ _ _ _ _ _ rfl (setRow_heap _ _ _ _ _ _ HR2.out) hu rfl (hi _)) rfl ?_
    have he : m = 0 := by have := HT.out; simpa using this
    subst he
    exact ⟨by simp, HL2.out.trans ((only_setRow _ _ _).below (by omega) (by have := HR2.out.lt; omega))⟩
set_option maxRecDepth 100000 in
set_option maxHeartbeats 1600000 in
theorem sub32 (a b : Nat) (ha : a < 2 ^ 256) (hb : b < 2 ^ 256) : Pure Tryd.prog 53 #[nV a, nV b] (nV ((a + (p25 - b % p25) % p25) % p25)) := by
  intro w
  have hq : (p25 - b % p25) % p25 < 2 ^ 256 := Nat.lt_trans (Nat.mod_lt _ (by decide +kernel)) p25_lt
  have h1 := neg53 b hb
  have h2 := add30 a _ ha hq
  generalize (p25 - b % p25) % p25 = c at *
  generalize (a + c) % p25 = d at *
  unfold nV dgV
  have hu := Tryd.underlying25
  have hi : ∀ f, (Tryd.prog.info? 25).map (·.size) = some (dgA 16 f).size := by intro f; rw [dgA_size]; kernel_rfl
  have hi' : ∀ f, (Tryd.prog.info? 25).map (·.size) = some (dgL 16 f).length := by intro f; rw [hi f, List.size_toArray]
  have H1 := Lib.hid h1
  have H2 := Lib.hid h2
  clear h1 h2
  go_enter Tryd.func53, Tryd.ntmps53
  go_wp2_with fail
  obtain ⟨w0, hw0⟩ : ∃ w0, w0 = (((w.alloc (Obj.cells (dgA 16 (dig a)) 25)).alloc (Obj.cells (dgA 16 (dig b)) 25)).alloc (Obj.cells (dgA 16 (fun _ => 0)) 25)) := ⟨_, rfl⟩
  have hA : DgAt w0 w.heap.size 16 25 (dig a) := by subst hw0; exact new3_0 w _ _ _
  have hB : DgAt w0 (w.heap.size + 1) 16 25 (dig b) := by subst hw0; exact new3_1 w _ _ _
  have hR : DgAt w0 (w.heap.size + 1 + 1) 16 25 (fun _ => 0) := by subst hw0; exact new3_2 w _ _ _
  have hL : Below w.heap.size w w0 := by subst hw0; exact below3 w _ _ _
  change Code.wp _ _ _ _ (((w.alloc (Obj.cells (dgA 16 (dig a)) 25)).alloc (Obj.cells (dgA 16 (dig b)) 25)).alloc (Obj.cells (dgA 16 (fun _ => 0)) 25))
  rw [← hw0]
  clear hw0
  refine wp_region_steady_tail 4 (Since w0) (by kernel_rfl) (by kernel_rfl) (Since.drew _) ?_
  simp only [List.take, List.drop]
  refine wpSL_load (by rfl) _ _ rfl _ _ rfl _ _ (fun w hw => hw.range hA.range hA.lt) hu rfl (hi' _) ?_
  simp only [Act.put, List.setIfInBounds_toArray, List.set_cons_zero, List.set_cons_succ]
  refine wpSL_load (by rfl) _ _ rfl _ _ rfl _ _ (fun w hw => hw.range hB.range hB.lt) hu rfl (hi' _) ?_
  simp only [Act.put, List.setIfInBounds_toArray, List.set_cons_zero, List.set_cons_succ]
  refine wpSL_call (by rfl) (fun w => by go_simp) (Pure.since H1.out) ?_
  simp only [Act.put, List.setIfInBounds_toArray, List.set_cons_zero, List.set_cons_succ]
  refine wpSL_call (by rfl) (fun w => by go_simp) (Pure.since H2.out) ?_
  simp only [Act.put, List.setIfInBounds_toArray, List.set_cons_zero, List.set_cons_succ]
  refine wpSL_nil ?_
  intro w3 hw3
  have hR1 := hR.below hw3 hR.lt
  have hL1 := hL.trans (hw3.mono (Nat.le_of_lt hA.lt))
  have HR := Lib.hid hR1
  have HL := Lib.hid hL1
  clear hR1 hL1 hw3 hA hB hR hL
  go_wp2_with (first
    | (refine wpList_store_row (o := ⟨none, .store 25 _ _, _, _, _, _⟩) rfl 25 _ _ rfl _ _ rfl rfl _ _ HR.out (hi _) (by rw [dgA_size, dgA_size]) (dgA_one _ _) ?_))
  (try simp only [Exit.inBlock, Exit.then])
  refine bodyPost_ret (results_cell_row rfl _ _ _ _ _ _ _ rfl (setRow_heap _ _ _ _ _ _ HR.out) hu rfl (hi _)) rfl ?_
  exact ⟨rfl, HL.out.trans ((only_setRow _ _ _).below (by omega) (by have := HR.out.lt; omega))⟩
set_option maxRecDepth 100000 in
set_option maxHeartbeats 1600000 in
theorem is20 (a b : Nat) (ha : a < 256 ^ 32) (hb : b < 256 ^ 32) : Pure Tryd.prog 16 #[byV 32 a, nV b] (.bool (decide (a = b))) := by
  intro w
  unfold nV dgV byV
  have hu := Tryd.underlying25
  have hu2 := Tryd.underlying22
  have hi' : ∀ f, (Tryd.prog.info? 25).map (·.size) = some (dgL 16 f).length := by intro f; rw [dgL_length]; kernel_rfl
  have hi2' : ∀ f, (Tryd.prog.info? 22).map (·.size) = some (byL 32 f).length := by intro f; rw [byL_length]; kernel_rfl
  go_enter Tryd.func16, Tryd.ntmps16
  go_wp2_with fail
  obtain ⟨w0, hw0⟩ : ∃ w0, w0 = ((w.alloc (Obj.cells (byA 32 a) 22)).alloc (Obj.cells (dgA 16 (dig b)) 25)) := ⟨_, rfl⟩
  have hA : w0.rangeAt w.heap.size 0 (byL 32 a) := by subst hw0; exact ByAt.range (f := byt a) (heap_alloc2_old w _ _)
  have hB : DgAt w0 (w.heap.size + 1) 16 25 (dig b) := by subst hw0; exact heap_alloc2_new w _ _
  have hL : Below w.heap.size w w0 := by subst hw0; exact below2 w _ _
  rw [← hw0]
  clear hw0
  refine wp_region_steady (Since w0) (by kernel_rfl) (by kernel_rfl) (Since.drew _) ?_
  refine wpSL_load (by rfl) _ _ rfl _ _ rfl _ _ (fun w hw => hw.range hA (by have := hB.lt; omega)) hu2 rfl (hi2' _) ?_
  simp only [Act.put, List.setIfInBounds_toArray, List.set_cons_zero, List.set_cons_succ]
  refine wpSL_load (by rfl) _ _ rfl _ _ rfl _ _ (fun w hw => hw.range hB.range hB.lt) hu rfl (hi' _) ?_
  simp only [Act.put, List.setIfInBounds_toArray, List.set_cons_zero, List.set_cons_succ]
  refine wpSL_call (by rfl) (fun w => by go_simp) (Pure.since (bytes25 b)) ?_
  simp only [Act.put, List.setIfInBounds_toArray, List.set_cons_zero, List.set_cons_succ]
  refine wpSL_eql (by rfl) _ _ _ _ rfl _ _ rfl rfl (by kernel_rfl) (fun w => run_eql_by hu2 Tryd.underlying5 (by kernel_rfl) ha hb w) ?_
  simp only [Act.put, List.setIfInBounds_toArray, List.set_cons_zero, List.set_cons_succ]
  refine wpSL_value (by rfl) (fun w hw => by go_simp; with_reducible rfl) ?_
  simp only [Act.put, List.setIfInBounds_toArray, List.set_cons_zero, List.set_cons_succ]
  refine wpSL_nil ?_
  intro w3 hw3
  have hL1 := hL.trans (hw3.mono (by have := hB.lt; omega))
  have HL := Lib.hid hL1
  clear hL1 hw3 hA hB hL
  go_wp2_with fail
  go_ret
  exact ⟨rfl, HL.out⟩
end Go.Proofs.YteehdjkmjncehaaDoor
