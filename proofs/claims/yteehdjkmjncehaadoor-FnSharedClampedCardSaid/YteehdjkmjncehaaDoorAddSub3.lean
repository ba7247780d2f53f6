
/-
  impl.AddSub: the sum and the difference of two elements.
-/
import Derived.Test.YteehdjkmjncehaaDoorAddSub2
import Derived.Test.YteehdjkmjncehaaDoorImplG
namespace Go.Proofs.YteehdjkmjncehaaDoor
open Go.RowKit
theorem results_cell2_row {P : Program} {fn : Func} {p q : Nat} {ty : TypeId} (h : fn.results = #[.cell p ty, .cell q ty]) (tmps : Array Value) (w : World) (g g2 : Nat) (t t2 : TypeId) (cs cs2 : Array Value) (fr fr2 : Nat × Nat) (d : TypeDesc)
    (hp : tmps.getD p undef = .pointer (some ⟨g, 0, none⟩)) (hq : tmps.getD q undef = .pointer (some ⟨g2, 0, none⟩)) (hg : w.heap[g]? = some (.cells cs t fr)) (hg2 : w.heap[g2]? = some (.cells cs2 t2 fr2))
    (hu : P.underlying ty = some d) (hd : (match d with | .struct _ | .array _ _ => true | _ => false) = true) (hi : (P.info? ty).map (·.size) = some cs.size) (hi2 : (P.info? ty).map (·.size) = some cs2.size) :
    (results fn tmps).run P w = .ok (.tuple #[.agg cs, .agg cs2]) w := by
  have hp' : tmps[p]?.getD undef = .pointer (some ⟨g, 0, none⟩) := by simpa using hp
  have hq' : tmps[q]?.getD undef = .pointer (some ⟨g2, 0, none⟩) := by simpa using hq
  simp [results, h, hp', hq', asAddr, run_loadVar_row w g t ty cs fr d hg hu hd hi, run_loadVar_row w g2 t2 ty cs2 fr2 d hg2 hu hd hi2]
theorem new5_4 (w : World) (A B C D E : Obj) : (((((w.alloc A).alloc B).alloc C).alloc D).alloc E).heap[w.heap.size + 1 + 1 + 1 + 1]? = some E := by
  have h := heap_alloc_new ((((w.alloc A).alloc B).alloc C).alloc D) E
  have e : ((((w.alloc A).alloc B).alloc C).alloc D).heap.size = w.heap.size + 1 + 1 + 1 + 1 := by simp
  rwa [e] at h
set_option maxRecDepth 100000 in
set_option maxHeartbeats 1600000 in
theorem implAddSub (x y : Nat) (hx : x < 2 ^ 256) (hy : y < 2 ^ 256) : Pure Tryd.prog 24 #[byV 32 x, byV 32 y] (.tuple #[byV 32 ((x + y) % p25), byV 32 (subN x y)]) := by
  intro w
  unfold byV
  have hu := Tryd.underlying22
  have hu2 := Tryd.underlying41
  have hi : ∀ f, (Tryd.prog.info? 22).map (·.size) = some (byL 32 f).length := by intro f; rw [byL_length]; kernel_rfl
  have hi2' : ∀ f, (Tryd.prog.info? 41).map (·.size) = some (byL 32 f).length := by intro f; rw [byL_length]; kernel_rfl
  have hi' : ∀ f, (Tryd.prog.info? 22).map (·.size) = some (byA 32 f).size := by intro f; rw [byA_size]; kernel_rfl
  have hi2 : ∀ f, (Tryd.prog.info? 41).map (·.size) = some (byA 32 f).size := by intro f; rw [byA_size]; kernel_rfl
  go_enter Tryd.func24, Tryd.ntmps24
  go_wp2_with fail
  obtain ⟨w0, hw0⟩ : ∃ w0, w0 = ((((w.alloc (Obj.cells (byA 32 x) 22)).alloc (Obj.cells (byA 32 y) 22)).alloc (Obj.cells (bfA 32 (fun _ => 0)) 22)).alloc (Obj.cells (bfA 32 (fun _ => 0)) 22)) := ⟨_, rfl⟩
  have hA : w0.rangeAt w.heap.size 0 (byL 32 x) := by subst hw0; exact ByAt.range (f := byt x) (new4_0 w _ _ _ _)
  have hB : w0.rangeAt (w.heap.size + 1) 0 (byL 32 y) := by subst hw0; exact ByAt.range (f := byt y) (new4_1 w _ _ _ _)
  have hR : ByAt w0 (w.heap.size + 1 + 1) 32 22 (fun _ => 0) := by subst hw0; exact new4_2 w _ _ _ _
  have hZ : ByAt w0 (w.heap.size + 1 + 1 + 1) 32 22 (fun _ => 0) := by subst hw0; exact new4_3 w _ _ _ _
  have hL : Below w.heap.size w w0 := by subst hw0; exact below4 w _ _ _ _
  change Code.wp _ _ _ _ ((((w.alloc (Obj.cells (byA 32 x) 22)).alloc (Obj.cells (byA 32 y) 22)).alloc (Obj.cells (bfA 32 (fun _ => 0)) 22)).alloc (Obj.cells (bfA 32 (fun _ => 0)) 22))
  rw [← hw0]
  clear hw0
  have hzl := hZ.lt
  refine wp_region_new2 2 (fun _ => false) (fun _ => none) (by kernel_rfl) (by kernel_rfl) (fun _ _ h => by cases h) rfl rfl (fun d h => by cases h; simp) (newS_alloc rfl (alloc_elt _ rfl)) (newS_alloc rfl (alloc_elt _ rfl)) ?_
  simp only [List.take, List.drop]
  refine wpVL_load (by rfl) _ _ rfl _ _ rfl _ _ (fun w hw => hw.range hA (by omega) rfl) hu rfl (hi _) ?_
  simp only [Act.put, List.setIfInBounds_toArray, List.set_cons_zero, List.set_cons_succ]
  refine wpVL_load (by rfl) _ _ rfl _ _ rfl _ _ (fun w hw => hw.range hB (by omega) rfl) hu rfl (hi _) ?_
  simp only [Act.put, List.setIfInBounds_toArray, List.set_cons_zero, List.set_cons_succ]
  refine wpVL_nil ?_
  intro b1 b2 hb1 hb2 hne _ _
  simp only [List.setIfInBounds_toArray, List.set_cons_zero, List.set_cons_succ]
  refine wpPL_row (by rfl) rfl _ _ _ rfl b1 _ rfl rfl (t := 41) (old := bfA 32 (fun _ => 0)) (by simp [updC, hne]) (fun h => by omega) (hi2 x) (by rw [bfA_size, byA_size]) (all_oneCell_toArray (byL_one 32 x)) ?_
  refine wpPL_row (by rfl) rfl _ _ _ rfl b2 _ rfl rfl (t := 41) (old := bfA 32 (fun _ => 0)) (by simp [updC, Ne.symm hne]) (fun h => by omega) (hi2 y) (by rw [bfA_size, byA_size]) (all_oneCell_toArray (byL_one 32 y)) ?_
  intro w1 hw1
  have hX : w1.heap[b1]? = some (.cells (byA 32 x) 41 (0, 0)) := hw1.held b1 _ (by simp [updC, hne])
  have hY : w1.heap[b2]? = some (.cells (byA 32 y) 41 (0, 0)) := hw1.held b2 _ (by simp [updC])
  have hZ1 : w1.heap[w.heap.size + 1 + 1 + 1]? = some (.cells (bfA 32 (fun _ => 0)) 22 (0, 0)) := (hw1.since.block _ (by omega) rfl).trans hZ
  have hR1 : w1.heap[w.heap.size + 1 + 1]? = some (.cells (bfA 32 (fun _ => 0)) 22 (0, 0)) := (hw1.since.block _ (by omega) rfl).trans hR
  have hL1 := hL.trans (hw1.since.below (B := w.heap.size) (by omega) (fun _ _ => rfl))
  have hs1 : w.heap.size + 1 + 1 + 1 < w1.heap.size := (Array.getElem?_eq_some_iff.1 hZ1).1
  clear hw1 hA hB hR hZ hL
  have H := Lib.hid (fpAddSubB (ix := 0) (iy := 0) (blk_el hX) (blk_el hY) (isE_el x) (isE_el y) hne hx hy)
  have HR := Lib.hid hR1
  have HZ := Lib.hid hZ1
  have HL := Lib.hid hL1
  have HS := Lib.hid hs1
  have HB1 := Lib.hid hb1
  have HB2 := Lib.hid hb2
  have HNE := Lib.hid hne
  have HZL := Lib.hid hzl
  clear hR1 hL1 hZ1 hX hY hs1 hb1 hb2 hne hzl
  simp only [Exit.then]
  go_wp2_with fail
  refine H.out.mono ?_
  rintro e w2 ⟨r, r2, hr, hr2, hrR, hrR2, rfl, hBx, hBy, hO⟩
  have hX : w2.heap[b1]? = some (.cells (byA 32 r) 41 (0, 0)) := Blk.row hBx
  have hY : w2.heap[b2]? = some (.cells (byA 32 r2) 41 (0, 0)) := Blk.row hBy
  have hR1 : w2.heap[w.heap.size + 1 + 1]? = some (.cells (bfA 32 (fun _ => 0)) 22 (0, 0)) := (hO.block _ (by have := HS.out; omega) (by have := HB1.out; have := HZL.out; omega) (by have := HB2.out; have := HZL.out; omega)).trans HR.out
  have hZ1 : w2.heap[w.heap.size + 1 + 1 + 1]? = some (.cells (bfA 32 (fun _ => 0)) 22 (0, 0)) := (hO.block _ (by have := HS.out; omega) (by have := HB1.out; have := HZL.out; omega) (by have := HB2.out; have := HZL.out; omega)).trans HZ.out
  have hL1 := HL.out.trans (hO.below (B := w.heap.size) (by have := HB1.out; have := HZL.out; omega) (by have := HB2.out; have := HZL.out; omega) (by have := HS.out; omega))
  have hA : w2.rangeAt b1 0 (byL 32 r) := ByAt.range (f := byt r) hX
  have hB : w2.rangeAt b2 0 (byL 32 r2) := ByAt.range (f := byt r2) hY
  have hl1 := (Array.getElem?_eq_some_iff.1 hX).1
  have hl2 := (Array.getElem?_eq_some_iff.1 hY).1
  have hd1 : b1 ≠ w.heap.size + 1 + 1 ∧ b1 ≠ w.heap.size + 1 + 1 + 1 := by have := HB1.out; have := HZL.out; omega
  have hd2 : b2 ≠ w.heap.size + 1 + 1 ∧ b2 ≠ w.heap.size + 1 + 1 + 1 := by have := HB2.out; have := HZL.out; omega
  have HRR := Lib.hid hrR
  have HRR2 := Lib.hid hrR2
  clear hrR hrR2 hO hBx hBy H HR HZ HL HS
  generalize hn : w.heap.size = n at *
  have HN := Lib.hid hn
  clear hn
  have HXX := Lib.hid hX
  have HYY := Lib.hid hY
  have HRr := Lib.hid hR1
  have HZz := Lib.hid hZ1
  clear hX hY hR1 hZ1
  go_wp2_with fail
  have hR1 := HRr.out
  have hZ1 := HZz.out
  refine wp_region_puts 4 (fun b => b == n + 1 + 1 || b == n + 1 + 1 + 1) (fun b => if b = n + 1 + 1 then some (.cells (bfA 32 (fun _ => 0)) 22 (0, 0)) else if b = n + 1 + 1 + 1 then some (.cells (bfA 32 (fun _ => 0)) 22 (0, 0)) else none) (by kernel_rfl) (by kernel_rfl) (fun b o h => by
      split at h
      · next e => subst e; cases h; exact hR1
      · split at h
        · next e => subst e; cases h; exact hZ1
        · cases h) ?_
  simp only [List.take, List.drop]
  refine wpVL_load (by rfl) _ _ rfl _ _ rfl _ _ (fun w hw => hw.range hA hl1 (by simp [hd1.1, hd1.2])) hu2 rfl (hi2' _) ?_
  simp only [Act.put, List.setIfInBounds_toArray, List.set_cons_zero, List.set_cons_succ]
  refine wpVL_call (by rfl) (fun w => by go_simp) (reduced46 r hr) ?_
  simp only [Act.put, List.setIfInBounds_toArray, List.set_cons_zero, List.set_cons_succ]
  refine wpVL_load (by rfl) _ _ rfl _ _ rfl _ _ (fun w hw => hw.range hB hl2 (by simp [hd2.1, hd2.2])) hu2 rfl (hi2' _) ?_
  simp only [Act.put, List.setIfInBounds_toArray, List.set_cons_zero, List.set_cons_succ]
  refine wpVL_call (by rfl) (fun w => by go_simp) (reduced46 r2 hr2) ?_
  simp only [Act.put, List.setIfInBounds_toArray, List.set_cons_zero, List.set_cons_succ]
  refine wpVL_nil ?_
  refine wpPL_row (by rfl) rfl _ _ _ rfl (n + 1 + 1) _ rfl rfl (t := 22) (old := bfA 32 (fun _ => 0)) (by simp) (fun h => by simp) (hi' (r % p25)) (by rw [bfA_size, byA_size]) (all_oneCell_toArray (byL_one 32 _)) ?_
  refine wpPL_row (by rfl) rfl _ _ _ rfl (n + 1 + 1 + 1) _ rfl rfl (t := 22) (old := bfA 32 (fun _ => 0)) (by simp [updC]) (fun h => by simp) (hi' (r2 % p25)) (by rw [bfA_size, byA_size]) (all_oneCell_toArray (byL_one 32 _)) ?_
  intro w3 hw3
  have g1 : w3.heap[n + 1 + 1]? = some (.cells (byA 32 (r % p25)) 22 (0, 0)) := hw3.held _ _ (by simp [updC])
  have g2 : w3.heap[n + 1 + 1 + 1]? = some (.cells (byA 32 (r2 % p25)) 22 (0, 0)) := hw3.held _ _ (by simp [updC])
  have hLz : n ≤ w2.heap.size := by have := (Array.getElem?_eq_some_iff.1 hR1).1; omega
  have HL3 := Lib.hid (hL1.trans (hw3.since.below (B := n) hLz (fun k hk => by simp; omega)))
  clear hw3
  simp only [Exit.then]
  go_wp2_with fail
  (try simp only [Exit.inBlock, Exit.then])
  refine bodyPost_ret (results_cell2_row rfl _ _ _ _ _ _ _ _ _ _ _ rfl rfl g1 g2 hu rfl (hi' _) (hi' _)) rfl ?_
  exact ⟨by rw [HRR.out, sub_eq HRR2.out], by rw [HN.out]; exact HL3.out⟩
end Go.Proofs.YteehdjkmjncehaaDoor
