/-
  spec.Step: a step of the ladder of RFC 7748 (written by genstep.py).
-/
import Derived.Test.YteehdjkmjncehaaFree2
import Derived.Test.YteehdjkmjncehaaMid
namespace Go.Proofs.Yteehdjkmjncehaa
open Go.RowKit
theorem lt256 (a : Nat) : a % p25 < 2 ^ 256 := Nat.lt_trans (Nat.mod_lt _ (by decide +kernel)) p25_lt
theorem sub256 (a b : Nat) : subN a b < 2 ^ 256 := Nat.lt_trans (subN_lt a b) p25_lt
/-- The five outputs of a step, of which the first is the first input. -/
def stA (w1 w2 : Nat) : Nat := (w1 + w2) % p25
def stAA (w1 w2 : Nat) : Nat := stA w1 w2 * stA w1 w2 % p25
def stBB (w1 w2 : Nat) : Nat := subN w1 w2 * subN w1 w2 % p25
def stE (w1 w2 : Nat) : Nat := subN (stAA w1 w2) (stBB w1 w2)
def stDA (w1 w2 w3 w4 : Nat) : Nat := subN w3 w4 * stA w1 w2 % p25
def stCB (w1 w2 w3 w4 : Nat) : Nat := (w3 + w4) % p25 * subN w1 w2 % p25
def stX (w1 w2 w3 w4 : Nat) : Nat := (stDA w1 w2 w3 w4 + stCB w1 w2 w3 w4) % p25
def stY (w1 w2 w3 w4 : Nat) : Nat := subN (stDA w1 w2 w3 w4) (stCB w1 w2 w3 w4)
def st1 (w1 w2 : Nat) : Nat := stAA w1 w2 * stBB w1 w2 % p25
def st2 (w1 w2 : Nat) : Nat := stE w1 w2 * ((stAA w1 w2 + 121665 * stE w1 w2 % p25) % p25) % p25
def st3 (w1 w2 w3 w4 : Nat) : Nat := stX w1 w2 w3 w4 * stX w1 w2 w3 w4 % p25
def st4 (w0 w1 w2 w3 w4 : Nat) : Nat := w0 * (stY w1 w2 w3 w4 * stY w1 w2 w3 w4 % p25) % p25
theorem DgAt.cells {w : World} {b T i v : Nat} {F : Nat → Nat} (h : DgAt w b 80 T F) :
    DgAt (w.setCells b (16 * i) (dgA 16 (dig v)).toList) b 80 T (fun k => if 16 * i ≤ k ∧ k < 16 * i + 16 then dig v (k - 16 * i) else F k) ∧ Only b w (w.setCells b (16 * i) (dgA 16 (dig v)).toList) := by
  obtain ⟨⟨cs', h1, h2⟩, h3⟩ := setCells_heap b (dgA 16 (dig v)).toList (16 * i) w _ T h
  refine ⟨?_, h3⟩
  unfold DgAt
  rw [h1]
  suffices he : cs' = dgA 80 (fun k => if 16 * i ≤ k ∧ k < 16 * i + 16 then dig v (k - 16 * i) else F k) by rw [he]
  apply Array.ext_getElem?
  intro k
  have e1 : (dgA 16 (dig v)).toList.length = 16 := by simp [dgL]
  have e2 : (dgA 80 F).size = 80 := dgA_size 80 F
  rw [h2 k, e1, e2]
  by_cases hk : k < 80
  · have g := dgA_get (n := 80) (f := fun k => if 16 * i ≤ k ∧ k < 16 * i + 16 then dig v (k - 16 * i) else F k) hk
    rw [g]
    by_cases hin : 16 * i ≤ k ∧ k < 16 * i + 16
    · have := dgA_get (n := 16) (f := dig v) (i := k - 16 * i) (by omega)
      rw [if_pos (by omega)]
      simp only [hin, and_self, if_true]
      simpa using this
    · rw [if_neg (by omega), dgA_get hk]
      simp only [hin, if_false]
  · rw [if_neg (by omega), Array.getElem?_eq_none (by rw [dgA_size]; omega), Array.getElem?_eq_none (by rw [dgA_size]; omega)]
theorem DgAt.there5 {w : World} {b T i v : Nat} {F : Nat → Nat} (h : DgAt w b 80 T F) (hi : i < 5) : w.there b (16 * i) (dgA 16 (dig v)).size := by
  intro j hj
  rw [dgA_size] at hj
  exact ⟨by rw [h.cell (by omega)]; rfl, h.frozen _⟩
/-- Here the walk stands still. -/
structure Stop (p : Prop) : Prop where
  out : p
theorem wpList_stop {P : Program} {ops : Array Oper} {Q : Exit → Act → World → Prop} {o : Oper} {rest : List Oper} {a : Act} {w : World} (h : Stop (wpList P ops Q (o :: rest) a w)) : wpList P ops Q (o :: rest) a w := h.out
theorem wpList_val {P : Program} {ops : Array Oper} {Q : Exit → Act → World → Prop} {o : Oper} {rest : List Oper} {a : Act} {w : World} {v : Value} (hw : Region.wanted o (yielded ops a.tmps) = true) (hx : (execOp a.eval o).run P w = .ok (.value v) w)
    (h : wpList P ops Q rest (a.put o.dst v) w) : wpList P ops Q (o :: rest) a w := by
  unfold wpList
  rw [if_pos hw]
  refine .inl ?_
  unfold Oper.wp
  rw [hx]
  exact h
set_option maxRecDepth 100000 in
theorem built_5 (a b c d e : Nat) : Try.prog.built 48 [(0, nV a), (1, nV b), (2, nV c), (3, nV d), (4, nV e)] = some (dgA 80 (w5F a b c d e)) := by kernel_rfl
set_option maxRecDepth 100000 in
set_option maxHeartbeats 3200000 in
theorem step40_0 (w0 w1 w2 w3 w4 : Nat) (h0 : w0 < 2 ^ 256) (h1 : w1 < 2 ^ 256) (h2 : w2 < 2 ^ 256) (h3 : w3 < 2 ^ 256) (h4 : w4 < 2 ^ 256) :
    Pure Try.prog 40 #[dgV 80 (w5F w0 w1 w2 w3 w4), .int .u64 0] (dgV 80 (w5F (w0 % p25) (st1 w1 w2) (st2 w1 w2) (st3 w1 w2 w3 w4) (st4 w0 w1 w2 w3 w4))) := by
  intro w
  unfold dgV
  have hu := Try.underlying28
  have hu5 := Try.underlying48
  have hi : ∀ f, (Try.prog.info? 28).map (·.size) = some (dgL 16 f).length := by intro f; rw [dgL_length]; kernel_rfl
  have hi' : ∀ f, (Try.prog.info? 28).map (·.size) = some (dgA 16 f).size := by intro f; rw [dgA_size]; kernel_rfl
  have hi5 : ∀ f, (Try.prog.info? 48).map (·.size) = some (dgA 80 f).size := by intro f; rw [dgA_size]; kernel_rfl
  go_enter Try.func40, Try.ntmps40
  go_wp2_with fail
  obtain ⟨v0, hv0⟩ : ∃ v0, v0 = ((w.alloc (Obj.cells (dgA 80 (w5F w0 w1 w2 w3 w4)) 48)).alloc (Obj.cells (dgA 80 (fun _ => 0)) 48)) := ⟨_, rfl⟩
  have hW0 : DgAt v0 w.heap.size 80 48 (w5F w0 w1 w2 w3 w4) := by subst hv0; exact heap_alloc2_old w _ _
  have hR0 : DgAt v0 (w.heap.size + 1) 80 48 (fun _ => 0) := by subst hv0; exact heap_alloc2_new w _ _
  have hL0 : Below w.heap.size w v0 := by subst hv0; exact below2 w _ _
  change Code.wp _ _ _ _ ((w.alloc (Obj.cells (dgA 80 (w5F w0 w1 w2 w3 w4)) 48)).alloc (Obj.cells (dgA 80 (fun _ => 0)) 48))
  rw [← hv0]
  clear hv0
  refine wp_region_new2 10 (fun _ => false) (fun _ => none) (by kernel_rfl) (by kernel_rfl) (fun _ _ h => by cases h) rfl rfl (fun d h => by cases h; simp) (newS_alloc rfl (alloc_n _ rfl)) (newS_alloc rfl (alloc_n _ rfl)) ?_
  simp only [List.take, List.drop]
  refine wpVL_value (v := .pointer (some ⟨w.heap.size, 16, none⟩)) (by rfl) (fun w hw => by go_simp) ?_
  simp only [Act.put, List.setIfInBounds_toArray, List.set_cons_zero, List.set_cons_succ]
  refine wpVL_load (by rfl) _ _ rfl w.heap.size 16 rfl (dgL 16 (dig w1)) _ (fun w hw => hw.range (w5_range hW0).2.1 hW0.lt rfl) hu rfl (hi _) ?_
  simp only [Act.put, List.setIfInBounds_toArray, List.set_cons_zero, List.set_cons_succ]
  refine wpVL_value (v := .pointer (some ⟨w.heap.size, 32, none⟩)) (by rfl) (fun w hw => by go_simp) ?_
  simp only [Act.put, List.setIfInBounds_toArray, List.set_cons_zero, List.set_cons_succ]
  refine wpVL_load (by rfl) _ _ rfl w.heap.size 32 rfl (dgL 16 (dig w2)) _ (fun w hw => hw.range (w5_range hW0).2.2.1 hW0.lt rfl) hu rfl (hi _) ?_
  simp only [Act.put, List.setIfInBounds_toArray, List.set_cons_zero, List.set_cons_succ]
  refine wpVL_call (by rfl) (fun w => by go_simp) (show Pure Try.prog 30 #[nV w1, nV w2] (nV (stA w1 w2)) from add30 w1 w2 h1 h2) ?_
  simp only [Act.put, List.setIfInBounds_toArray, List.set_cons_zero, List.set_cons_succ]
  refine wpVL_value (v := .pointer (some ⟨w.heap.size, 16, none⟩)) (by rfl) (fun w hw => by go_simp) ?_
  simp only [Act.put, List.setIfInBounds_toArray, List.set_cons_zero, List.set_cons_succ]
  refine wpVL_load (by rfl) _ _ rfl w.heap.size 16 rfl (dgL 16 (dig w1)) _ (fun w hw => hw.range (w5_range hW0).2.1 hW0.lt rfl) hu rfl (hi _) ?_
  simp only [Act.put, List.setIfInBounds_toArray, List.set_cons_zero, List.set_cons_succ]
  refine wpVL_value (v := .pointer (some ⟨w.heap.size, 32, none⟩)) (by rfl) (fun w hw => by go_simp) ?_
  simp only [Act.put, List.setIfInBounds_toArray, List.set_cons_zero, List.set_cons_succ]
  refine wpVL_load (by rfl) _ _ rfl w.heap.size 32 rfl (dgL 16 (dig w2)) _ (fun w hw => hw.range (w5_range hW0).2.2.1 hW0.lt rfl) hu rfl (hi _) ?_
  simp only [Act.put, List.setIfInBounds_toArray, List.set_cons_zero, List.set_cons_succ]
  refine wpVL_call (by rfl) (fun w => by go_simp) (sub32N w1 w2 h1 h2) ?_
  simp only [Act.put, List.setIfInBounds_toArray, List.set_cons_zero, List.set_cons_succ]
  refine wpVL_nil ?_
  intro b0p b0q hb1 hb2 hne _ _
  simp only [List.setIfInBounds_toArray, List.set_cons_zero, List.set_cons_succ]
  refine wpPL_row (by rfl) rfl _ _ _ rfl b0p _ rfl rfl (t := 28) (old := dgA 16 (fun _ => 0)) (by simp [updC, hne]) (fun h => by omega) (hi' _) (by rw [dgA_size, dgA_size]) (dgA_one _ _) ?_
  refine wpPL_row (by rfl) rfl _ _ _ rfl b0q _ rfl rfl (t := 28) (old := dgA 16 (fun _ => 0)) (by simp [updC, Ne.symm hne]) (fun h => by omega) (hi' _) (by rw [dgA_size, dgA_size]) (dgA_one _ _) ?_
  intro v1 hv
  have hBB : Below v0.heap.size v0 v1 := hv.since.below (Nat.le_refl _) (fun _ _ => rfl)
  have hA1 : DgAt v1 b0p 16 28 (dig (stA w1 w2)) := hv.held b0p _ (by simp [updC, hne])
  have hC1 : DgAt v1 b0q 16 28 (dig (subN w1 w2)) := hv.held b0q _ (by simp [updC])
  have hW1 := hW0.below hBB hW0.lt
  have hR1 := hR0.below hBB hR0.lt
  have hL1 := hL0.trans (hBB.mono (Nat.le_of_lt hW0.lt))
  clear hW0 hR0 hL0
  clear hv hBB hb1 hb2 hne
  simp only [Exit.then]
  go_wp2_with fail
  refine wp_region_new2 6 (fun _ => false) (fun _ => none) (by kernel_rfl) (by kernel_rfl) (fun _ _ h => by cases h) rfl rfl (fun d h => by cases h; simp) (newS_alloc rfl (alloc_n _ rfl)) (newS_alloc rfl (alloc_n _ rfl)) ?_
  simp only [List.take, List.drop]
  refine wpVL_load (by rfl) _ _ rfl b0p 0 rfl (dgL 16 (dig (stA w1 w2))) _ (fun w hw => hw.range hA1.range hA1.lt rfl) hu rfl (hi _) ?_
  simp only [Act.put, List.setIfInBounds_toArray, List.set_cons_zero, List.set_cons_succ]
  refine wpVL_load (by rfl) _ _ rfl b0p 0 rfl (dgL 16 (dig (stA w1 w2))) _ (fun w hw => hw.range hA1.range hA1.lt rfl) hu rfl (hi _) ?_
  simp only [Act.put, List.setIfInBounds_toArray, List.set_cons_zero, List.set_cons_succ]
  refine wpVL_call (by rfl) (fun w => by go_simp) (show Pure Try.prog 34 #[nV (stA w1 w2), nV (stA w1 w2)] (nV (stAA w1 w2)) from mul34 (stA w1 w2) (stA w1 w2) (lt256 _) (lt256 _)) ?_
  simp only [Act.put, List.setIfInBounds_toArray, List.set_cons_zero, List.set_cons_succ]
  refine wpVL_load (by rfl) _ _ rfl b0q 0 rfl (dgL 16 (dig (subN w1 w2))) _ (fun w hw => hw.range hC1.range hC1.lt rfl) hu rfl (hi _) ?_
  simp only [Act.put, List.setIfInBounds_toArray, List.set_cons_zero, List.set_cons_succ]
  refine wpVL_load (by rfl) _ _ rfl b0q 0 rfl (dgL 16 (dig (subN w1 w2))) _ (fun w hw => hw.range hC1.range hC1.lt rfl) hu rfl (hi _) ?_
  simp only [Act.put, List.setIfInBounds_toArray, List.set_cons_zero, List.set_cons_succ]
  refine wpVL_call (by rfl) (fun w => by go_simp) (show Pure Try.prog 34 #[nV (subN w1 w2), nV (subN w1 w2)] (nV (stBB w1 w2)) from mul34 (subN w1 w2) (subN w1 w2) (sub256 _ _) (sub256 _ _)) ?_
  simp only [Act.put, List.setIfInBounds_toArray, List.set_cons_zero, List.set_cons_succ]
  refine wpVL_nil ?_
  intro b1p b1q hb1 hb2 hne _ _
  simp only [List.setIfInBounds_toArray, List.set_cons_zero, List.set_cons_succ]
  refine wpPL_row (by rfl) rfl _ _ _ rfl b1p _ rfl rfl (t := 28) (old := dgA 16 (fun _ => 0)) (by simp [updC, hne]) (fun h => by omega) (hi' _) (by rw [dgA_size, dgA_size]) (dgA_one _ _) ?_
  refine wpPL_row (by rfl) rfl _ _ _ rfl b1q _ rfl rfl (t := 28) (old := dgA 16 (fun _ => 0)) (by simp [updC, Ne.symm hne]) (fun h => by omega) (hi' _) (by rw [dgA_size, dgA_size]) (dgA_one _ _) ?_
  intro v2 hv
  have hBB : Below v1.heap.size v1 v2 := hv.since.below (Nat.le_refl _) (fun _ _ => rfl)
  have hP2 : DgAt v2 b1p 16 28 (dig (stAA w1 w2)) := hv.held b1p _ (by simp [updC, hne])
  have hB2 : DgAt v2 b1q 16 28 (dig (stBB w1 w2)) := hv.held b1q _ (by simp [updC])
  have hA2 := hA1.below hBB hA1.lt
  have hC2 := hC1.below hBB hC1.lt
  have hW2 := hW1.below hBB hW1.lt
  have hR2 := hR1.below hBB hR1.lt
  have hL2 := hL1.trans (hBB.mono (Nat.le_of_lt hW1.lt))
  clear hA1 hC1 hW1 hR1 hL1
  clear hv hBB hb1 hb2 hne
  simp only [Exit.then]
  go_wp2_with (first
    | (refine wpList_load_row (o := ⟨some 44, _, _, _, _, _⟩) rfl 28 _ rfl b1p rfl _ _ _ _ hP2 hu rfl (hi' _) ?_)
    | (refine wpList_load_row (o := ⟨some 45, _, _, _, _, _⟩) rfl 28 _ rfl b1q rfl _ _ _ _ hB2 hu rfl (hi' _) ?_)
    | (go_at_call 32; refine ((show Pure Try.prog 32 #[nV (stAA w1 w2), nV (stBB w1 w2)] (nV (stE w1 w2)) from sub32N (stAA w1 w2) (stBB w1 w2) (lt256 _) (lt256 _)) _).mono ?_; rintro e v2c ⟨rfl, hb⟩; have HB := Lib.hid hb; clear hb)
    | (refine wpList_store_row (o := ⟨none, .store 28 _ _, _, _, _, _⟩) rfl 28 _ _ rfl v2c.heap.size (dgA 16 (dig (stE w1 w2))) rfl rfl 28 (dgA 16 (fun _ => 0)) (heap_alloc_new v2c _) (hi' _) rfl (dgA_one _ _) ?_))
  have hBc := HB.out
  clear HB
  generalize hvv : World.setRow _ _ _ = v3
  have hE3 : DgAt v3 v2c.heap.size 16 28 (dig (stE w1 w2)) := by subst hvv; exact setRow_heap _ _ (dgA 16 (fun _ => 0)) _ _ _ (heap_alloc_new v2c _)
  have hBB : Below v2.heap.size v2 v3 := by subst hvv; exact hBc.trans ((((Below.refl _ _).alloc (Nat.le_refl _) _).trans ((only_setRow _ _ _).below (by omega) (by simp))).mono hBc.size)
  clear hvv hBc
  have hA3 := hA2.below hBB hA2.lt
  have hC3 := hC2.below hBB hC2.lt
  have hP3 := hP2.below hBB hP2.lt
  have hB3 := hB2.below hBB hB2.lt
  have hW3 := hW2.below hBB hW2.lt
  have hR3 := hR2.below hBB hR2.lt
  have hL3 := hL2.trans (hBB.mono (Nat.le_of_lt hW2.lt))
  clear hA2 hC2 hP2 hB2 hW2 hR2 hL2
  clear hBB
  go_wp2_with fail
  refine wp_region_new1 7 (fun _ => false) (fun _ => none) (by kernel_rfl) (by kernel_rfl) (fun _ _ h => by cases h) rfl (newS_alloc rfl (alloc_n _ rfl)) ?_
  simp only [List.take, List.drop]
  refine wpVL_value (v := .pointer (some ⟨w.heap.size, 48, none⟩)) (by rfl) (fun w hw => by go_simp) ?_
  simp only [Act.put, List.setIfInBounds_toArray, List.set_cons_zero, List.set_cons_succ]
  refine wpVL_load (by rfl) _ _ rfl w.heap.size 48 rfl (dgL 16 (dig w3)) _ (fun w hw => hw.range (w5_range hW3).2.2.2.1 hW3.lt rfl) hu rfl (hi _) ?_
  simp only [Act.put, List.setIfInBounds_toArray, List.set_cons_zero, List.set_cons_succ]
  refine wpVL_value (v := .pointer (some ⟨w.heap.size, 64, none⟩)) (by rfl) (fun w hw => by go_simp) ?_
  simp only [Act.put, List.setIfInBounds_toArray, List.set_cons_zero, List.set_cons_succ]
  refine wpVL_load (by rfl) _ _ rfl w.heap.size 64 rfl (dgL 16 (dig w4)) _ (fun w hw => hw.range (w5_range hW3).2.2.2.2 hW3.lt rfl) hu rfl (hi _) ?_
  simp only [Act.put, List.setIfInBounds_toArray, List.set_cons_zero, List.set_cons_succ]
  refine wpVL_call (by rfl) (fun w => by go_simp) (sub32N w3 w4 h3 h4) ?_
  simp only [Act.put, List.setIfInBounds_toArray, List.set_cons_zero, List.set_cons_succ]
  refine wpVL_load (by rfl) _ _ rfl b0p 0 rfl (dgL 16 (dig (stA w1 w2))) _ (fun w hw => hw.range hA3.range hA3.lt rfl) hu rfl (hi _) ?_
  simp only [Act.put, List.setIfInBounds_toArray, List.set_cons_zero, List.set_cons_succ]
  refine wpVL_call (by rfl) (fun w => by go_simp) (show Pure Try.prog 34 #[nV (subN w3 w4), nV (stA w1 w2)] (nV (stDA w1 w2 w3 w4)) from mul34 (subN w3 w4) (stA w1 w2) (sub256 _ _) (lt256 _)) ?_
  simp only [Act.put, List.setIfInBounds_toArray, List.set_cons_zero, List.set_cons_succ]
  refine wpVL_nil ?_
  intro b3p hb1 _
  simp only [List.setIfInBounds_toArray, List.set_cons_zero, List.set_cons_succ]
  refine wpPL_row (by rfl) rfl _ _ _ rfl b3p _ rfl rfl (t := 28) (old := dgA 16 (fun _ => 0)) (by simp [updC]) (fun h => by omega) (hi' _) (by rw [dgA_size, dgA_size]) (dgA_one _ _) ?_
  intro v4 hv
  have hBB : Below v3.heap.size v3 v4 := hv.since.below (Nat.le_refl _) (fun _ _ => rfl)
  have hD4 : DgAt v4 b3p 16 28 (dig (stDA w1 w2 w3 w4)) := hv.held b3p _ (by simp [updC])
  have hA4 := hA3.below hBB hA3.lt
  have hC4 := hC3.below hBB hC3.lt
  have hP4 := hP3.below hBB hP3.lt
  have hB4 := hB3.below hBB hB3.lt
  have hE4 := hE3.below hBB hE3.lt
  have hW4 := hW3.below hBB hW3.lt
  have hR4 := hR3.below hBB hR3.lt
  have hL4 := hL3.trans (hBB.mono (Nat.le_of_lt hW3.lt))
  clear hA3 hC3 hP3 hB3 hE3 hW3 hR3 hL3
  clear hv hBB hb1
  simp only [Exit.then]
  go_wp2_with fail
  refine wp_region_new1 7 (fun _ => false) (fun _ => none) (by kernel_rfl) (by kernel_rfl) (fun _ _ h => by cases h) rfl (newS_alloc rfl (alloc_n _ rfl)) ?_
  simp only [List.take, List.drop]
  refine wpVL_value (v := .pointer (some ⟨w.heap.size, 48, none⟩)) (by rfl) (fun w hw => by go_simp) ?_
  simp only [Act.put, List.setIfInBounds_toArray, List.set_cons_zero, List.set_cons_succ]
  refine wpVL_load (by rfl) _ _ rfl w.heap.size 48 rfl (dgL 16 (dig w3)) _ (fun w hw => hw.range (w5_range hW4).2.2.2.1 hW4.lt rfl) hu rfl (hi _) ?_
  simp only [Act.put, List.setIfInBounds_toArray, List.set_cons_zero, List.set_cons_succ]
  refine wpVL_value (v := .pointer (some ⟨w.heap.size, 64, none⟩)) (by rfl) (fun w hw => by go_simp) ?_
  simp only [Act.put, List.setIfInBounds_toArray, List.set_cons_zero, List.set_cons_succ]
  refine wpVL_load (by rfl) _ _ rfl w.heap.size 64 rfl (dgL 16 (dig w4)) _ (fun w hw => hw.range (w5_range hW4).2.2.2.2 hW4.lt rfl) hu rfl (hi _) ?_
  simp only [Act.put, List.setIfInBounds_toArray, List.set_cons_zero, List.set_cons_succ]
  refine wpVL_call (by rfl) (fun w => by go_simp) (add30 w3 w4 h3 h4) ?_
  simp only [Act.put, List.setIfInBounds_toArray, List.set_cons_zero, List.set_cons_succ]
  refine wpVL_load (by rfl) _ _ rfl b0q 0 rfl (dgL 16 (dig (subN w1 w2))) _ (fun w hw => hw.range hC4.range hC4.lt rfl) hu rfl (hi _) ?_
  simp only [Act.put, List.setIfInBounds_toArray, List.set_cons_zero, List.set_cons_succ]
  refine wpVL_call (by rfl) (fun w => by go_simp) (show Pure Try.prog 34 #[nV ((w3 + w4) % p25), nV (subN w1 w2)] (nV (stCB w1 w2 w3 w4)) from mul34 ((w3 + w4) % p25) (subN w1 w2) (lt256 _) (sub256 _ _)) ?_
  simp only [Act.put, List.setIfInBounds_toArray, List.set_cons_zero, List.set_cons_succ]
  refine wpVL_nil ?_
  intro b4p hb1 _
  simp only [List.setIfInBounds_toArray, List.set_cons_zero, List.set_cons_succ]
  refine wpPL_row (by rfl) rfl _ _ _ rfl b4p _ rfl rfl (t := 28) (old := dgA 16 (fun _ => 0)) (by simp [updC]) (fun h => by omega) (hi' _) (by rw [dgA_size, dgA_size]) (dgA_one _ _) ?_
  intro v5 hv
  have hBB : Below v4.heap.size v4 v5 := hv.since.below (Nat.le_refl _) (fun _ _ => rfl)
  have hF5 : DgAt v5 b4p 16 28 (dig (stCB w1 w2 w3 w4)) := hv.held b4p _ (by simp [updC])
  have hA5 := hA4.below hBB hA4.lt
  have hC5 := hC4.below hBB hC4.lt
  have hP5 := hP4.below hBB hP4.lt
  have hB5 := hB4.below hBB hB4.lt
  have hE5 := hE4.below hBB hE4.lt
  have hD5 := hD4.below hBB hD4.lt
  have hW5 := hW4.below hBB hW4.lt
  have hR5 := hR4.below hBB hR4.lt
  have hL5 := hL4.trans (hBB.mono (Nat.le_of_lt hW4.lt))
  clear hA4 hC4 hP4 hB4 hE4 hD4 hW4 hR4 hL4
  clear hv hBB hb1
  simp only [Exit.then]
  go_wp2_with fail
  refine wp_region_new2 6 (fun _ => false) (fun _ => none) (by kernel_rfl) (by kernel_rfl) (fun _ _ h => by cases h) rfl rfl (fun d h => by cases h; simp) (newS_alloc rfl (alloc_n _ rfl)) (newS_alloc rfl (alloc_n _ rfl)) ?_
  simp only [List.take, List.drop]
  refine wpVL_load (by rfl) _ _ rfl b3p 0 rfl (dgL 16 (dig (stDA w1 w2 w3 w4))) _ (fun w hw => hw.range hD5.range hD5.lt rfl) hu rfl (hi _) ?_
  simp only [Act.put, List.setIfInBounds_toArray, List.set_cons_zero, List.set_cons_succ]
  refine wpVL_load (by rfl) _ _ rfl b4p 0 rfl (dgL 16 (dig (stCB w1 w2 w3 w4))) _ (fun w hw => hw.range hF5.range hF5.lt rfl) hu rfl (hi _) ?_
  simp only [Act.put, List.setIfInBounds_toArray, List.set_cons_zero, List.set_cons_succ]
  refine wpVL_call (by rfl) (fun w => by go_simp) (show Pure Try.prog 30 #[nV (stDA w1 w2 w3 w4), nV (stCB w1 w2 w3 w4)] (nV (stX w1 w2 w3 w4)) from add30 (stDA w1 w2 w3 w4) (stCB w1 w2 w3 w4) (lt256 _) (lt256 _)) ?_
  simp only [Act.put, List.setIfInBounds_toArray, List.set_cons_zero, List.set_cons_succ]
  refine wpVL_load (by rfl) _ _ rfl b3p 0 rfl (dgL 16 (dig (stDA w1 w2 w3 w4))) _ (fun w hw => hw.range hD5.range hD5.lt rfl) hu rfl (hi _) ?_
  simp only [Act.put, List.setIfInBounds_toArray, List.set_cons_zero, List.set_cons_succ]
  refine wpVL_load (by rfl) _ _ rfl b4p 0 rfl (dgL 16 (dig (stCB w1 w2 w3 w4))) _ (fun w hw => hw.range hF5.range hF5.lt rfl) hu rfl (hi _) ?_
  simp only [Act.put, List.setIfInBounds_toArray, List.set_cons_zero, List.set_cons_succ]
  refine wpVL_call (by rfl) (fun w => by go_simp) (show Pure Try.prog 32 #[nV (stDA w1 w2 w3 w4), nV (stCB w1 w2 w3 w4)] (nV (stY w1 w2 w3 w4)) from sub32N (stDA w1 w2 w3 w4) (stCB w1 w2 w3 w4) (lt256 _) (lt256 _)) ?_
  simp only [Act.put, List.setIfInBounds_toArray, List.set_cons_zero, List.set_cons_succ]
  refine wpVL_nil ?_
  intro b5p b5q hb1 hb2 hne _ _
  simp only [List.setIfInBounds_toArray, List.set_cons_zero, List.set_cons_succ]
  refine wpPL_row (by rfl) rfl _ _ _ rfl b5p _ rfl rfl (t := 28) (old := dgA 16 (fun _ => 0)) (by simp [updC, hne]) (fun h => by omega) (hi' _) (by rw [dgA_size, dgA_size]) (dgA_one _ _) ?_
  refine wpPL_row (by rfl) rfl _ _ _ rfl b5q _ rfl rfl (t := 28) (old := dgA 16 (fun _ => 0)) (by simp [updC, Ne.symm hne]) (fun h => by omega) (hi' _) (by rw [dgA_size, dgA_size]) (dgA_one _ _) ?_
  intro v6 hv
  have hBB : Below v5.heap.size v5 v6 := hv.since.below (Nat.le_refl _) (fun _ _ => rfl)
  have hX6 : DgAt v6 b5p 16 28 (dig (stX w1 w2 w3 w4)) := hv.held b5p _ (by simp [updC, hne])
  have hY6 : DgAt v6 b5q 16 28 (dig (stY w1 w2 w3 w4)) := hv.held b5q _ (by simp [updC])
  have hA6 := hA5.below hBB hA5.lt
  have hC6 := hC5.below hBB hC5.lt
  have hP6 := hP5.below hBB hP5.lt
  have hB6 := hB5.below hBB hB5.lt
  have hE6 := hE5.below hBB hE5.lt
  have hD6 := hD5.below hBB hD5.lt
  have hF6 := hF5.below hBB hF5.lt
  have hW6 := hW5.below hBB hW5.lt
  have hR6 := hR5.below hBB hR5.lt
  have hL6 := hL5.trans (hBB.mono (Nat.le_of_lt hW5.lt))
  clear hA5 hC5 hP5 hB5 hE5 hD5 hF5 hW5 hR5 hL5
  clear hv hBB hb1 hb2 hne
  simp only [Exit.then]
  go_wp2_with fail
  have hnA : b0p ≠ w.heap.size + 1 := fun h => by have h1 := hA6; rw [h] at h1; have h2 := h1.symm.trans hR6; simp at h2
  have hnC : b0q ≠ w.heap.size + 1 := fun h => by have h1 := hC6; rw [h] at h1; have h2 := h1.symm.trans hR6; simp at h2
  have hnP : b1p ≠ w.heap.size + 1 := fun h => by have h1 := hP6; rw [h] at h1; have h2 := h1.symm.trans hR6; simp at h2
  have hnB : b1q ≠ w.heap.size + 1 := fun h => by have h1 := hB6; rw [h] at h1; have h2 := h1.symm.trans hR6; simp at h2
  have hnE : v2c.heap.size ≠ w.heap.size + 1 := fun h => by have h1 := hE6; rw [h] at h1; have h2 := h1.symm.trans hR6; simp at h2
  have hnD : b3p ≠ w.heap.size + 1 := fun h => by have h1 := hD6; rw [h] at h1; have h2 := h1.symm.trans hR6; simp at h2
  have hnF : b4p ≠ w.heap.size + 1 := fun h => by have h1 := hF6; rw [h] at h1; have h2 := h1.symm.trans hR6; simp at h2
  have hnX : b5p ≠ w.heap.size + 1 := fun h => by have h1 := hX6; rw [h] at h1; have h2 := h1.symm.trans hR6; simp at h2
  have hnY : b5q ≠ w.heap.size + 1 := fun h => by have h1 := hY6; rw [h] at h1; have h2 := h1.symm.trans hR6; simp at h2
  have hlw := hR6.lt
  refine wp_region_puts 23 (fun b => b == w.heap.size + 1) (fun b => if b = w.heap.size + 1 then some (.cells (dgA 80 (fun _ => 0)) 48 (0, 0)) else none) (by kernel_rfl) (by kernel_rfl) (fun b o h => by
      split at h
      · next e => subst e; cases h; exact hR6
      · cases h) ?_
  simp only [List.take, List.drop]
  refine wpVL_value (v := .pointer (some ⟨w.heap.size, 0, none⟩)) (by rfl) (fun w hw => by go_simp) ?_
  simp only [Act.put, List.setIfInBounds_toArray, List.set_cons_zero, List.set_cons_succ]
  refine wpVL_load (by rfl) _ _ rfl w.heap.size 0 rfl (dgL 16 (dig w0)) _ (fun w hw => hw.range (w5_range hW6).1 hW6.lt (by simp)) hu rfl (hi _) ?_
  simp only [Act.put, List.setIfInBounds_toArray, List.set_cons_zero, List.set_cons_succ]
  refine wpVL_call (by rfl) (fun w => by go_simp) (mod22 w0 h0) ?_
  simp only [Act.put, List.setIfInBounds_toArray, List.set_cons_zero, List.set_cons_succ]
  refine wpVL_load (by rfl) _ _ rfl b1p 0 rfl (dgL 16 (dig (stAA w1 w2))) _ (fun w hw => hw.range hP6.range hP6.lt (by simp; omega)) hu rfl (hi _) ?_
  simp only [Act.put, List.setIfInBounds_toArray, List.set_cons_zero, List.set_cons_succ]
  refine wpVL_load (by rfl) _ _ rfl b1q 0 rfl (dgL 16 (dig (stBB w1 w2))) _ (fun w hw => hw.range hB6.range hB6.lt (by simp; omega)) hu rfl (hi _) ?_
  simp only [Act.put, List.setIfInBounds_toArray, List.set_cons_zero, List.set_cons_succ]
  refine wpVL_call (by rfl) (fun w => by go_simp) (show Pure Try.prog 34 #[nV (stAA w1 w2), nV (stBB w1 w2)] (nV (st1 w1 w2)) from mul34 (stAA w1 w2) (stBB w1 w2) (lt256 _) (lt256 _)) ?_
  simp only [Act.put, List.setIfInBounds_toArray, List.set_cons_zero, List.set_cons_succ]
  refine wpVL_load (by rfl) _ _ rfl v2c.heap.size 0 rfl (dgL 16 (dig (stE w1 w2))) _ (fun w hw => hw.range hE6.range hE6.lt (by simp; omega)) hu rfl (hi _) ?_
  simp only [Act.put, List.setIfInBounds_toArray, List.set_cons_zero, List.set_cons_succ]
  refine wpVL_load (by rfl) _ _ rfl b1p 0 rfl (dgL 16 (dig (stAA w1 w2))) _ (fun w hw => hw.range hP6.range hP6.lt (by simp; omega)) hu rfl (hi _) ?_
  simp only [Act.put, List.setIfInBounds_toArray, List.set_cons_zero, List.set_cons_succ]
  refine wpVL_call (by rfl) (fun w => by go_simp) (small35 121665 (by decide)) ?_
  simp only [Act.put, List.setIfInBounds_toArray, List.set_cons_zero, List.set_cons_succ]
  refine wpVL_load (by rfl) _ _ rfl v2c.heap.size 0 rfl (dgL 16 (dig (stE w1 w2))) _ (fun w hw => hw.range hE6.range hE6.lt (by simp; omega)) hu rfl (hi _) ?_
  simp only [Act.put, List.setIfInBounds_toArray, List.set_cons_zero, List.set_cons_succ]
  refine wpVL_call (by rfl) (fun w => by go_simp) (mul34 121665 (stE w1 w2) (by decide) (sub256 _ _)) ?_
  simp only [Act.put, List.setIfInBounds_toArray, List.set_cons_zero, List.set_cons_succ]
  refine wpVL_call (by rfl) (fun w => by go_simp) (add30 (stAA w1 w2) (121665 * (stE w1 w2) % p25) (lt256 _) (lt256 _)) ?_
  simp only [Act.put, List.setIfInBounds_toArray, List.set_cons_zero, List.set_cons_succ]
  refine wpVL_call (by rfl) (fun w => by go_simp) (show Pure Try.prog 34 #[nV (stE w1 w2), nV (((stAA w1 w2) + 121665 * (stE w1 w2) % p25) % p25)] (nV (st2 w1 w2)) from mul34 (stE w1 w2) (((stAA w1 w2) + 121665 * (stE w1 w2) % p25) % p25) (sub256 _ _) (lt256 _)) ?_
  simp only [Act.put, List.setIfInBounds_toArray, List.set_cons_zero, List.set_cons_succ]
  refine wpVL_load (by rfl) _ _ rfl b5p 0 rfl (dgL 16 (dig (stX w1 w2 w3 w4))) _ (fun w hw => hw.range hX6.range hX6.lt (by simp; omega)) hu rfl (hi _) ?_
  simp only [Act.put, List.setIfInBounds_toArray, List.set_cons_zero, List.set_cons_succ]
  refine wpVL_load (by rfl) _ _ rfl b5p 0 rfl (dgL 16 (dig (stX w1 w2 w3 w4))) _ (fun w hw => hw.range hX6.range hX6.lt (by simp; omega)) hu rfl (hi _) ?_
  simp only [Act.put, List.setIfInBounds_toArray, List.set_cons_zero, List.set_cons_succ]
  refine wpVL_call (by rfl) (fun w => by go_simp) (show Pure Try.prog 34 #[nV (stX w1 w2 w3 w4), nV (stX w1 w2 w3 w4)] (nV (st3 w1 w2 w3 w4)) from mul34 (stX w1 w2 w3 w4) (stX w1 w2 w3 w4) (lt256 _) (lt256 _)) ?_
  simp only [Act.put, List.setIfInBounds_toArray, List.set_cons_zero, List.set_cons_succ]
  refine wpVL_value (v := .pointer (some ⟨w.heap.size, 0, none⟩)) (by rfl) (fun w hw => by go_simp) ?_
  simp only [Act.put, List.setIfInBounds_toArray, List.set_cons_zero, List.set_cons_succ]
  refine wpVL_load (by rfl) _ _ rfl w.heap.size 0 rfl (dgL 16 (dig w0)) _ (fun w hw => hw.range (w5_range hW6).1 hW6.lt (by simp)) hu rfl (hi _) ?_
  simp only [Act.put, List.setIfInBounds_toArray, List.set_cons_zero, List.set_cons_succ]
  refine wpVL_load (by rfl) _ _ rfl b5q 0 rfl (dgL 16 (dig (stY w1 w2 w3 w4))) _ (fun w hw => hw.range hY6.range hY6.lt (by simp; omega)) hu rfl (hi _) ?_
  simp only [Act.put, List.setIfInBounds_toArray, List.set_cons_zero, List.set_cons_succ]
  refine wpVL_load (by rfl) _ _ rfl b5q 0 rfl (dgL 16 (dig (stY w1 w2 w3 w4))) _ (fun w hw => hw.range hY6.range hY6.lt (by simp; omega)) hu rfl (hi _) ?_
  simp only [Act.put, List.setIfInBounds_toArray, List.set_cons_zero, List.set_cons_succ]
  refine wpVL_call (by rfl) (fun w => by go_simp) (mul34 (stY w1 w2 w3 w4) (stY w1 w2 w3 w4) (sub256 _ _) (sub256 _ _)) ?_
  simp only [Act.put, List.setIfInBounds_toArray, List.set_cons_zero, List.set_cons_succ]
  refine wpVL_call (by rfl) (fun w => by go_simp) (show Pure Try.prog 34 #[nV w0, nV ((stY w1 w2 w3 w4) * (stY w1 w2 w3 w4) % p25)] (nV (st4 w0 w1 w2 w3 w4)) from mul34 w0 ((stY w1 w2 w3 w4) * (stY w1 w2 w3 w4) % p25) h0 (lt256 _)) ?_
  simp only [Act.put, List.setIfInBounds_toArray, List.set_cons_zero, List.set_cons_succ]
  refine wpVL_build (by rfl) _ _ rfl (dgA 80 (w5F (w0 % p25) (st1 w1 w2) (st2 w1 w2) (st3 w1 w2 w3 w4) (st4 w0 w1 w2 w3 w4))) (by simp only [List.map_toArray, List.map_cons, List.map_nil]; exact built_5 (w0 % p25) (st1 w1 w2) (st2 w1 w2) (st3 w1 w2 w3 w4) (st4 w0 w1 w2 w3 w4)) ?_
  simp only [Act.put, List.setIfInBounds_toArray, List.set_cons_zero, List.set_cons_succ]
  refine wpVL_nil ?_
  refine wpPL_row (by rfl) rfl _ _ _ rfl (w.heap.size + 1) _ rfl rfl (t := 48) (old := dgA 80 (fun _ => 0)) (by simp) (fun h => by simp) (hi5 _) (by rw [dgA_size, dgA_size]) (dgA_one _ _) ?_
  intro v9 hv
  have hF : DgAt v9 (w.heap.size + 1) 80 48 (w5F (w0 % p25) (st1 w1 w2) (st2 w1 w2) (st3 w1 w2 w3 w4) (st4 w0 w1 w2 w3 w4)) := hv.held _ _ (by simp [updC])
  have hLF := hL6.trans (hv.since.below (B := w.heap.size) (by omega) (fun k hk => by simp; omega))
  simp only [Exit.then]
  go_wp2_with fail
  (try simp only [Exit.inBlock, Exit.then])
  refine bodyPost_ret (results_cell_row rfl _ _ _ _ _ _ _ rfl hF hu5 rfl (hi5 _)) rfl ?_
  exact ⟨rfl, hLF⟩
end Go.Proofs.Yteehdjkmjncehaa
