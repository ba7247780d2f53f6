/-
  doubleGeneric, double: a point's double (written by gendbl.py).
-/
import Derived.Test.YteehdjkmjncehaaAddSub2
import Derived.Test.YteehdjkmjncehaaA24
import Derived.Test.YteehdjkmjncehaaStep
import Derived.Test.YteehdjkmjncehaaAddSub3
namespace Go.Proofs.Yteehdjkmjncehaa
open Go.RowKit
/-- Of what was there in w nothing has turned but the blocks of D. -/
structure OnlyD (D : Nat → Prop) (w w' : World) : Prop where
  os : w'.os = w.os
  tape : w'.tape = w.tape
  output : w'.output = w.output
  size : w.heap.size ≤ w'.heap.size
  block : ∀ k, k < w.heap.size → ¬ D k → w'.heap[k]? = w.heap[k]?
theorem OnlyD.of_below {D : Nat → Prop} {w w' : World} (h : Below w.heap.size w w') : OnlyD D w w' := ⟨h.os, h.tape, h.output, h.size, fun k hk _ => h.block k hk⟩
theorem OnlyD.step {D : Nat → Prop} {b : Nat} {w w1 w2 : World} (h : OnlyD D w w1) (h2 : Only b w1 w2) (hb : D b ∨ w.heap.size ≤ b) : OnlyD D w w2 :=
  ⟨h2.os.trans h.os, h2.tape.trans h.tape, h2.output.trans h.output, Nat.le_trans h.size h2.size, fun k hk hd => (h2.block k (Nat.lt_of_lt_of_le hk h.size) (fun e => by subst e; rcases hb with hb | hb; exact hd hb; omega)).trans (h.block k hk hd)⟩
theorem OnlyD.step2 {D : Nat → Prop} {b c : Nat} {w w1 w2 : World} (h : OnlyD D w w1) (h2 : Only2 b c w1 w2) (hb : D b ∨ w.heap.size ≤ b) (hc : D c ∨ w.heap.size ≤ c) : OnlyD D w w2 :=
  ⟨h2.os.trans h.os, h2.tape.trans h.tape, h2.output.trans h.output, Nat.le_trans h.size h2.size, fun k hk hd => (h2.block k (Nat.lt_of_lt_of_le hk h.size) (fun e => by subst e; rcases hb with hb | hb; exact hd hb; omega) (fun e => by subst e; rcases hc with hc | hc; exact hd hc; omega)).trans (h.block k hk hd)⟩
theorem Blk.only2 {w w' : World} {b c d T : Nat} {ls : List Nat} (h : Blk w b T ls) (ho : Only2 c d w w') (hn : b ≠ c) (hn2 : b ≠ d) : Blk w' b T ls := by
  have hl := h.lt
  unfold Blk at *; rw [ho.block b hl hn hn2]; exact h
theorem putE_putE (ls : List Nat) (i a b : Nat) (h : 4 * i + 3 < ls.length) : putE (putE ls i a) i b = putE ls i b := by
  apply List.ext_getElem?
  intro k
  rw [putE_get _ i b k (by rw [putE_length]; exact h), putE_get ls i b k h, putE_get ls i a k h]
  split <;> rfl
theorem sub_of {r x y : Nat} (h : (r + y) % p25 = x % p25) : r % p25 = subN x y := sub_eq h
theorem subN_mod (x y : Nat) : subN x y = subN (x % p25) (y % p25) := by unfold subN; rw [Nat.mod_mod, Nat.mod_add_mod]
theorem mul_of {r a b A B : Nat} (h : r % p25 = a * b % p25) (ha : a % p25 = A % p25) (hb : b % p25 = B % p25) : r % p25 = A * B % p25 := by rw [h, Nat.mul_mod, ha, hb, ← Nat.mul_mod]
theorem sub_of2 {r a b A B : Nat} (h : (r + b) % p25 = a % p25) (ha : a % p25 = A % p25) (hb : b % p25 = B % p25) : r % p25 = subN A B := by
  rw [sub_eq h, subN_mod, ha, hb, ← subN_mod]
theorem add_of {r a b A B : Nat} (h : r % p25 = (a + b) % p25) (ha : a % p25 = A % p25) (hb : b % p25 = B % p25) : r % p25 = (A + B) % p25 := by rw [h, Nat.add_mod, ha, hb, ← Nat.add_mod]
theorem subN_self_mod (a b : Nat) : subN a b % p25 = subN a b := Nat.mod_eq_of_lt (subN_lt a b)
theorem subN_add (a b : Nat) : (subN a b + b) % p25 = a % p25 := by
  unfold subN
  have hp : 0 < p25 := by decide +kernel
  have hm := Nat.mod_lt b hp
  have e := Nat.div_add_mod b p25
  rw [Nat.mod_add_mod, Nat.add_right_comm, Nat.add_mod_mod]
  have : a + b + (p25 - b % p25) = a + p25 * (b / p25 + 1) := by rw [Nat.mul_add]; omega
  rw [this, Nat.add_mul_mod_self_left]
/-- 121666 times the difference and the second are the first and 121665 times the difference. -/
theorem a24_eq (a b : Nat) : (subN a b * 121666 + b) % p25 = (a + 121665 * subN a b % p25) % p25 := by
  have h := subN_add a b
  generalize subN a b = s at *
  rw [show s * 121666 + b = 121665 * s + (s + b) by omega, Nat.add_mod, h, ← Nat.add_mod, Nat.add_comm, Nat.add_mod a (121665 * s % p25), Nat.mod_mod, ← Nat.add_mod]
def DblR (bx bY Tx Ty ix iy : Nat) (xs ys : List Nat) (x z : Nat) (w : World) (e : Ending) (w' : World) : Prop :=
  ∃ r r2, r < 2 ^ 256 ∧ r2 < 2 ^ 256 ∧ r % p25 = st1 x z ∧ r2 % p25 = st2 x z ∧ e = .returned (.tuple #[]) ∧ Blk w' bx Tx (putE xs ix r) ∧ Blk w' bY Ty (putE ys iy r2) ∧ OnlyD (fun k => k = bx ∨ k = bY) w w'
set_option maxRecDepth 100000 in
set_option maxHeartbeats 1600000 in
theorem doubleGeneric_any {bx bY Tx Ty ix iy x z : Nat} {xs ys : List Nat} {w : World} (h0 : Blk w bx Tx xs) (h1 : Blk w bY Ty ys) (hxe : IsE xs ix x) (hze : IsE ys iy z) (hn : bx ≠ bY) (hx : x < 2 ^ 256) (hz : z < 2 ^ 256) :
    Calls Try.prog 92 #[.pointer (some ⟨bx, 32 * ix, none⟩), .pointer (some ⟨bY, 32 * iy, none⟩)] w (DblR bx bY Tx Ty ix iy xs ys x z w) := by
  have hbl := h0.lt
  have hbl2 := h1.lt
  have HNE := Lib.hid hn
  go_enter Try.func92, Try.ntmps92
  go_wp2_with fail
  obtain ⟨w0, hw0⟩ : ∃ w0, w0 = ((w.alloc (Obj.cells (bfA 32 (fun _ => 0)) 59)).alloc (Obj.cells (bfA 32 (fun _ => 0)) 59)) := ⟨_, rfl⟩
  have gS0 : Blk w0 w.heap.size 59 (elL 0) := by subst hw0; exact blk_zero (heap_alloc2_old w _ _)
  have gU0 : Blk w0 (w.heap.size + 1) 59 (elL 0) := by subst hw0; exact blk_zero (heap_alloc2_new w _ _)
  have hLL : Below w.heap.size w w0 := by subst hw0; exact below2 w _ _
  have gX0 := h0.below hLL hbl
  have gY0 := h1.below hLL hbl2
  have hP0 : OnlyD (fun k => k = bx ∨ k = bY) w w0 := OnlyD.of_below hLL
  change Calls _ _ _ ((w.alloc (Obj.cells (bfA 32 (fun _ => 0)) 59)).alloc (Obj.cells (bfA 32 (fun _ => 0)) 59)) _
  rw [← hw0]
  clear hw0 hLL h0 h1 hn
  obtain ⟨n, hn⟩ : ∃ n, w.heap.size = n := ⟨_, rfl⟩
  have HN := Lib.hid hn
  rw [hn] at gS0 gU0 hbl hbl2 ⊢
  have hnl : w.heap.size ≤ n := by omega
  clear hn
  have heS := isE_el 0
  have heU := isE_el 0
  have h00 : 0 < 2 ^ 256 := by decide
  refine (fpAddSubB gX0 gY0 hxe hze HNE.out hx hz).mono ?_
  rintro e w1 ⟨r1, rA, hr1, hrA, hR1, hRA, rfl, gX1, gY1, hO1⟩
  have HR1 := Lib.hid hR1
  have HRA := Lib.hid hRA
  have gS1 : Blk w1 n 59 (elL 0) := gS0.only2 hO1 (by omega) (by omega)
  have gU1 : Blk w1 (n + 1) 59 (elL 0) := gU0.only2 hO1 (by omega) (by omega)
  have hP1 := hP0.step2 hO1 (.inl (.inl rfl)) (.inl (.inr rfl))
  have heX1 : IsE (putE xs ix r1) ix r1 := IsE.put hxe.lt
  have heZ1 : IsE (putE ys iy rA) iy rA := IsE.put hze.lt
  clear hR1 hRA hO1 hP0 gX0 gY0 gS0 gU0
  go_wp2_with fail
  refine (fpSqr_any (iz := ix) gX1 heX1.lt rfl (heX1.el gX1) hr1).mono ?_
  rintro e w2 ⟨r2, hr2, hR2, rfl, hB2, hO2⟩
  have HR2 := Lib.hid hR2
  have gY2 := gY1.only hO2 (Ne.symm HNE.out)
  have gS2 := gS1.only hO2 (by omega)
  have gU2 := gU1.only hO2 (by omega)
  have hP2 := hP1.step hO2 (.inl (.inl rfl))
  have heX2 : IsE (putE (putE xs ix r1) ix r2) ix r2 := IsE.put heX1.lt
  clear hR2 hO2 hP1 gX1 gY1 gS1 gU1
  go_wp2_with fail
  refine (fpSqr_any (iz := iy) gY2 heZ1.lt rfl (heZ1.el gY2) hrA).mono ?_
  rintro e w3 ⟨r3, hr3, hR3, rfl, hB3, hO3⟩
  have HR3 := Lib.hid hR3
  have gX3 := hB2.only hO3 HNE.out
  have gS3 := gS2.only hO3 (by omega)
  have gU3 := gU2.only hO3 (by omega)
  have hP3 := hP2.step hO3 (.inl (.inr rfl))
  have heZ3 : IsE (putE (putE ys iy rA) iy r3) iy r3 := IsE.put heZ1.lt
  clear hR3 hO3 hP2 hB2 gY2 gS2 gU2
  go_wp2_with fail
  refine (fpSub_any (iz := 0) gS3 heS.lt rfl (heX2.el gX3) hr2 (heZ3.el hB3) hr3).mono ?_
  rintro e w4 ⟨r4, hr4, hR4, rfl, hB4, hO4⟩
  have HR4 := Lib.hid hR4
  have gX4 := gX3.only hO4 (by omega)
  have gY4 := hB3.only hO4 (by omega)
  have gU4 := gU3.only hO4 (by omega)
  have hP4 := hP3.step hO4 (.inr (by omega))
  have heS4 : IsE (putE (elL 0) 0 r4) 0 r4 := IsE.put heS.lt
  clear hR4 hO4 hP3 gX3 hB3 gS3 gU3
  go_wp2_with fail
  refine (mulA24Generic_any (iz := 0) gU4 heU.lt rfl (heS4.el hB4) hr4).mono ?_
  rintro e w5 ⟨r5, hr5, hR5, rfl, hB5, hO5⟩
  have HR5 := Lib.hid hR5
  have gX5 := gX4.only hO5 (by omega)
  have gY5 := gY4.only hO5 (by omega)
  have gS5 := hB4.only hO5 (by omega)
  have hP5 := hP4.step hO5 (.inr (by omega))
  have heU5 : IsE (putE (elL 0) 0 r5) 0 r5 := IsE.put heU.lt
  clear hR5 hO5 hP4 gX4 gY4 hB4 gU4
  go_wp2_with fail
  refine (fpAdd_any (iz := 0) hB5 heU5.lt rfl (heU5.el hB5) hr5 (heZ3.el gY5) hr3).mono ?_
  rintro e w6 ⟨r6, hr6, hR6, rfl, hB6, hO6⟩
  have HR6 := Lib.hid hR6
  have gX6 := gX5.only hO6 (by omega)
  have gY6 := gY5.only hO6 (by omega)
  have gS6 := gS5.only hO6 (by omega)
  have hP6 := hP5.step hO6 (.inr (by omega))
  have heU6 : IsE (putE (putE (elL 0) 0 r5) 0 r6) 0 r6 := IsE.put heU5.lt
  clear hR6 hO6 hP5 gX5 gY5 gS5 hB5
  go_wp2_with fail
  refine (fpMul_any (iz := ix) gX6 heX2.lt rfl (heX2.el gX6) hr2 (heZ3.el gY6) hr3).mono ?_
  rintro e w7 ⟨r7, hr7, hR7, rfl, hB7, hO7⟩
  have HR7 := Lib.hid hR7
  have gY7 := gY6.only hO7 (Ne.symm HNE.out)
  have gS7 := gS6.only hO7 (by omega)
  have gU7 := hB6.only hO7 (by omega)
  have hP7 := hP6.step hO7 (.inl (.inl rfl))
  have heX7 : IsE (putE (putE (putE xs ix r1) ix r2) ix r7) ix r7 := IsE.put heX2.lt
  clear hR7 hO7 hP6 gX6 gY6 gS6 hB6
  go_wp2_with fail
  refine (fpMul_any (iz := iy) gY7 heZ3.lt rfl (heS4.el gS7) hr4 (heU6.el gU7) hr6).mono ?_
  rintro e w8 ⟨r8, hr8, hR8, rfl, hB8, hO8⟩
  have HR8 := Lib.hid hR8
  have gX8 := hB7.only hO8 HNE.out
  have gS8 := gS7.only hO8 (by omega)
  have gU8 := gU7.only hO8 (by omega)
  have hP8 := hP7.step hO8 (.inl (.inr rfl))
  have heZ8 : IsE (putE (putE (putE ys iy rA) iy r3) iy r8) iy r8 := IsE.put heZ3.lt
  clear hR8 hO8 hP7 hB7 gY7 gS7 gU7
  go_wp2_with fail
  go_end0
  have e1 : r1 % p25 = stA x z := HR1.out
  have eA : rA % p25 = subN x z := sub_eq HRA.out
  have e2 : r2 % p25 = stAA x z := mul_of HR2.out (by rw [e1]; unfold stA; rw [Nat.mod_mod]) (by rw [e1]; unfold stA; rw [Nat.mod_mod])
  have e3 : r3 % p25 = stBB x z := mul_of HR3.out (by rw [eA, subN_self_mod]) (by rw [eA, subN_self_mod])
  have mAA : stAA x z % p25 = stAA x z := by unfold stAA; rw [Nat.mod_mod]
  have mBB : stBB x z % p25 = stBB x z := by unfold stBB; rw [Nat.mod_mod]
  have e4 : r4 % p25 = stE x z := sub_of2 HR4.out (by rw [e2, mAA]) (by rw [e3, mBB])
  have mE : stE x z % p25 = stE x z := subN_self_mod _ _
  have e5 : r5 % p25 = (stE x z * 121666) % p25 := mul_of HR5.out (by rw [e4, mE]) rfl
  have e6 : r6 % p25 = (stAA x z + 121665 * stE x z % p25) % p25 := by
    rw [add_of (B := stBB x z) HR6.out e5 (by rw [e3, mBB])]
    exact a24_eq (stAA x z) (stBB x z)
  have e7 : r7 % p25 = st1 x z := mul_of HR7.out (by rw [e2, mAA]) (by rw [e3, mBB])
  have e8 : r8 % p25 = st2 x z := mul_of HR8.out (by rw [e4, mE]) (by rw [e6, Nat.mod_mod])
  refine ⟨r7, r8, hr7, hr8, e7, e8, rfl, ?_, ?_, hP8⟩
  · have h := gX8
    rw [putE_putE _ _ _ _ (by simp only [putE_length]; exact hxe.lt), putE_putE _ _ _ _ hxe.lt] at h
    exact h
  · have h := hB8
    rw [putE_putE _ _ _ _ (by simp only [putE_length]; exact hze.lt), putE_putE _ _ _ _ hze.lt] at h
    exact h
theorem double_any {bx bY Tx Ty ix iy x z : Nat} {xs ys : List Nat} {w : World} (h0 : Blk w bx Tx xs) (h1 : Blk w bY Ty ys) (hxe : IsE xs ix x) (hze : IsE ys iy z) (hn : bx ≠ bY) (hx : x < 2 ^ 256) (hz : z < 2 ^ 256) :
    Calls Try.prog 79 #[.pointer (some ⟨bx, 32 * ix, none⟩), .pointer (some ⟨bY, 32 * iy, none⟩)] w (DblR bx bY Tx Ty ix iy xs ys x z w) := by
  have H := Lib.hid (doubleGeneric_any h0 h1 hxe hze hn hx hz)
  clear h0 h1 hxe hze hn hx hz
  go_enter Try.func79, Try.ntmps79
  go_wp2_with fail
  refine H.out.mono ?_
  rintro e w' ⟨r, r2, hr, hr2, hR, hR2, rfl, hP⟩
  have hR := Lib.hid hR
  have hR2 := Lib.hid hR2
  have HP := Lib.hid hP
  clear hP
  go_wp2_with fail
  go_end0
  exact ⟨r, r2, hr, hr2, hR.out, hR2.out, rfl, HP.out⟩
def Two (R R2 : Nat → Prop) (w : World) (e : Ending) (w' : World) : Prop := ∃ r r2, r < 2 ^ 256 ∧ r2 < 2 ^ 256 ∧ R r ∧ R2 r2 ∧ e = .returned (.tuple #[byV 32 r, byV 32 r2]) ∧ Below w.heap.size w w'
set_option maxRecDepth 100000 in
set_option maxHeartbeats 1600000 in
theorem zzDouble (x z : Nat) (hx : x < 2 ^ 256) (hz : z < 2 ^ 256) (w : World) : Calls Try.prog 60 #[byV 32 x, byV 32 z] w (Two (fun r => r % p25 = st1 x z) (fun r => r % p25 = st2 x z) w) := by
  unfold byV
  have hu2 := Try.underlying59
  have hi : ∀ f, (Try.prog.info? 59).map (·.size) = some (byL 32 f).length := by intro f; rw [byL_length]; kernel_rfl
  have hi2 : ∀ f, (Try.prog.info? 59).map (·.size) = some (byA 32 f).size := by intro f; rw [byA_size]; kernel_rfl
  go_enter Try.func60, Try.ntmps60
  go_wp2_with fail
  obtain ⟨w0, hw0⟩ : ∃ w0, w0 = ((((w.alloc (Obj.cells (byA 32 x) 59)).alloc (Obj.cells (byA 32 z) 59)).alloc (Obj.cells (bfA 32 (fun _ => 0)) 59)).alloc (Obj.cells (bfA 32 (fun _ => 0)) 59)) := ⟨_, rfl⟩
  have hX := blk_el (show w0.heap[w.heap.size]? = _ by subst hw0; exact new4_0 w _ _ _ _)
  have hZ := blk_el (show w0.heap[w.heap.size + 1]? = _ by subst hw0; exact new4_1 w _ _ _ _)
  have hA : w0.heap[w.heap.size + 1 + 1]? = some (.cells (bfA 32 (fun _ => 0)) 59 (0, 0)) := by subst hw0; exact new4_2 w _ _ _ _
  have hB : w0.heap[w.heap.size + 1 + 1 + 1]? = some (.cells (bfA 32 (fun _ => 0)) 59 (0, 0)) := by subst hw0; exact new4_3 w _ _ _ _
  have hL : Below w.heap.size w w0 := by subst hw0; exact below4 w _ _ _ _
  change Calls _ _ _ ((((w.alloc (Obj.cells (byA 32 x) 59)).alloc (Obj.cells (byA 32 z) 59)).alloc (Obj.cells (bfA 32 (fun _ => 0)) 59)).alloc (Obj.cells (bfA 32 (fun _ => 0)) 59)) _
  rw [← hw0]
  clear hw0
  have hlA := (Array.getElem?_eq_some_iff.1 hA).1
  have hlB := (Array.getElem?_eq_some_iff.1 hB).1
  have HA := Lib.hid hA
  have HB := Lib.hid hB
  clear hA hB
  refine (double_any (ix := 0) (iy := 0) hX hZ (isE_el x) (isE_el z) (by omega) hx hz).mono ?_
  rintro e w1 ⟨r, r2, hr, hr2, hR, hR2, rfl, hBx, hBz, hO⟩
  have HR := Lib.hid hR
  have HR2 := Lib.hid hR2
  have hA1 := (hO.block (w.heap.size + 1 + 1) hlA (by omega)).trans HA.out
  have hB1 := (hO.block (w.heap.size + 1 + 1 + 1) hlB (by omega)).trans HB.out
  have hL1 : Below w.heap.size w w1 := hL.trans ⟨hO.os, hO.tape, hO.output, hO.size, fun k hk => hO.block k (by omega) (by omega)⟩
  have hx1 : w1.rangeAt w.heap.size 0 (byL 32 r) := ByAt.range (n := 32) (T := 59) (f := byt r) (Blk.row hBx)
  have hz1 : w1.rangeAt (w.heap.size + 1) 0 (byL 32 r2) := ByAt.range (n := 32) (T := 59) (f := byt r2) (Blk.row hBz)
  have hlx := hBx.lt
  have hlz := hBz.lt
  have HA1 := Lib.hid hA1
  have HB1 := Lib.hid hB1
  have HL1 := Lib.hid hL1
  clear hR hR2 hO hBx hBz hX hZ hL hA1 hB1 hL1 HA HB
  generalize hn : w.heap.size = n at *
  have HN := Lib.hid hn
  clear hn
  go_wp2_with fail
  have hA1 := HA1.out
  have hB1 := HB1.out
  refine wp_region_puts 2 (fun b => b == n + 1 + 1 || b == n + 1 + 1 + 1) (fun b => if b = n + 1 + 1 then some (.cells (bfA 32 (fun _ => 0)) 59 (0, 0)) else if b = n + 1 + 1 + 1 then some (.cells (bfA 32 (fun _ => 0)) 59 (0, 0)) else none) (by kernel_rfl) (by kernel_rfl) (fun b o h => by
      split at h
      · next e => subst e; cases h; exact hA1
      · split at h
        · next e => subst e; cases h; exact hB1
        · cases h) ?_
  simp only [List.take, List.drop]
  refine wpVL_load (by rfl) _ _ rfl _ _ rfl _ _ (fun w hw => hw.range hx1 hlx (by simp; omega)) hu2 rfl (hi _) ?_
  simp only [Act.put, List.setIfInBounds_toArray, List.set_cons_zero, List.set_cons_succ]
  refine wpVL_load (by rfl) _ _ rfl _ _ rfl _ _ (fun w hw => hw.range hz1 hlz (by simp)) hu2 rfl (hi _) ?_
  simp only [Act.put, List.setIfInBounds_toArray, List.set_cons_zero, List.set_cons_succ]
  refine wpVL_nil ?_
  refine wpPL_row (by rfl) rfl _ _ _ rfl (n + 1 + 1) _ rfl rfl (t := 59) (old := bfA 32 (fun _ => 0)) (by simp) (fun h => by simp) (hi2 r) (by rw [bfA_size, byA_size]) (all_oneCell_toArray (byL_one 32 _)) ?_
  refine wpPL_row (by rfl) rfl _ _ _ rfl (n + 1 + 1 + 1) _ rfl rfl (t := 59) (old := bfA 32 (fun _ => 0)) (by simp [updC]) (fun h => by simp) (hi2 r2) (by rw [bfA_size, byA_size]) (all_oneCell_toArray (byL_one 32 _)) ?_
  intro w3 hw3
  have g1 : w3.heap[n + 1 + 1]? = some (.cells (byA 32 r) 59 (0, 0)) := hw3.held _ _ (by simp [updC])
  have g2 : w3.heap[n + 1 + 1 + 1]? = some (.cells (byA 32 r2) 59 (0, 0)) := hw3.held _ _ (by simp [updC])
  have HL3 := Lib.hid (HL1.out.trans (hw3.since.below (B := n) (by omega) (fun k hk => by simp; omega)))
  clear hw3
  simp only [Exit.then]
  go_wp2_with fail
  (try simp only [Exit.inBlock, Exit.then])
  refine bodyPost_ret (results_cell2_row rfl _ _ _ _ _ _ _ _ _ _ _ rfl rfl g1 g2 hu2 rfl (hi2 _) (hi2 _)) rfl ?_
  exact ⟨r, r2, hr, hr2, HR.out, HR2.out, rfl, by rw [HN.out]; exact HL3.out⟩
end Go.Proofs.Yteehdjkmjncehaa
