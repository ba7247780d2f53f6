
/-
  addsubGeneric, addsub, AddSub: the sum and the difference of two elements at once.
-/
import Derived.Test.YteehdjkmjncehaaDoorMid
import Derived.Test.YteehdjkmjncehaaDoorWrap
namespace Go.Proofs.YteehdjkmjncehaaDoor
open Go.RowKit
/-- Of what was there nothing has turned but two blocks. -/
structure Only2 (b c : Nat) (w w' : World) : Prop where
  os : w'.os = w.os
  tape : w'.tape = w.tape
  output : w'.output = w.output
  size : w.heap.size ≤ w'.heap.size
  block : ∀ k, k < w.heap.size → k ≠ b → k ≠ c → w'.heap[k]? = w.heap[k]?
theorem Only.of2 {b : Nat} {w w1 w2 : World} (h : Below w.heap.size w w1) (h2 : Only b w1 w2) (_hb : b < w.heap.size) : Only b w w2 := (Only.of_below h).trans h2
theorem Only2.of {b c : Nat} {w w1 w2 w3 : World} (h : Below w.heap.size w w1) (h2 : Only c w1 w2) (h3 : Only b w2 w3) (_hb : b < w.heap.size) (_hc : c < w.heap.size) : Only2 b c w w3 :=
  ⟨h3.os.trans (h2.os.trans h.os), h3.tape.trans (h2.tape.trans h.tape), h3.output.trans (h2.output.trans h.output), Nat.le_trans h.size (Nat.le_trans h2.size h3.size), fun k hk h1 h4 =>
    (h3.block k (by have := h.size; have := h2.size; omega) h1).trans ((h2.block k (by have := h.size; omega) h4).trans (h.block k hk))⟩
theorem Only2.below {b c B : Nat} {w w' : World} (h : Only2 b c w w') (hb : B ≤ b) (hc : B ≤ c) (hB : B ≤ w.heap.size) : Below B w w' :=
  ⟨h.os, h.tape, h.output, h.size, fun k hk => h.block k (by omega) (by omega) (by omega)⟩
def AsA (b T ix iy : Nat) (ls : List Nat) (x y : Nat) (w : World) (e : Ending) (w' : World) : Prop :=
  ∃ r r2, r < 2 ^ 256 ∧ r2 < 2 ^ 256 ∧ r % p25 = (x + y) % p25 ∧ (r2 + y) % p25 = x % p25 ∧ e = .returned (.tuple #[]) ∧ Blk w' b T (putE (putE ls iy r2) ix r) ∧ Only b w w'
def AsB (bx bY Tx Ty ix iy : Nat) (xs ys : List Nat) (x y : Nat) (w : World) (e : Ending) (w' : World) : Prop :=
  ∃ r r2, r < 2 ^ 256 ∧ r2 < 2 ^ 256 ∧ r % p25 = (x + y) % p25 ∧ (r2 + y) % p25 = x % p25 ∧ e = .returned (.tuple #[]) ∧ Blk w' bx Tx (putE xs ix r) ∧ Blk w' bY Ty (putE ys iy r2) ∧ Only2 bx bY w w'
set_option maxRecDepth 100000 in
set_option maxHeartbeats 1600000 in
theorem addsubGenericA {b T ix iy x y : Nat} {ls : List Nat} {w : World} (h0 : Blk w b T ls) (hxe : IsE ls ix x) (hye : IsE ls iy y) (hx : x < 2 ^ 256) (hy : y < 2 ^ 256) :
    Calls Tryd.prog 67 #[.pointer (some ⟨b, 32 * ix, none⟩), .pointer (some ⟨b, 32 * iy, none⟩)] w (AsA b T ix iy ls x y w) := by
  have hu2 := Tryd.underlying41
  have hi2 : ∀ f, (Tryd.prog.info? 41).map (·.size) = some (byL 32 f).length := by intro f; rw [byL_length]; kernel_rfl
  have hi3 : ∀ f, (Tryd.prog.info? 41).map (·.size) = some (byA 32 f).size := by intro f; rw [byA_size]; kernel_rfl
  have hbl := h0.lt
  obtain ⟨w0, hw0⟩ : ∃ w0, w0 = w.alloc (Obj.cells (bfA 32 (fun _ => 0)) 41) := ⟨_, rfl⟩
  have hZ0 : Blk w0 w.heap.size 41 (elL 0) := by subst hw0; exact blk_zero (heap_alloc_new _ _)
  have hL0 : Below w.heap.size w w0 := by subst hw0; exact (Below.refl _ _).alloc (Nat.le_refl _) _
  have g0 := h0.below hL0 hbl
  have H := Lib.hid (addGeneric_any (iz := 0) hZ0 (by simp [elL]) rfl (hxe.el g0) hx (hye.el g0) hy)
  have G0 := Lib.hid g0
  have HL0 := Lib.hid hL0
  have HS0 := Lib.hid hZ0.lt
  clear hZ0 hL0 g0
  go_enter Tryd.func67, Tryd.ntmps67
  go_wp2_with fail
  change Calls _ _ _ (w.alloc (Obj.cells (bfA 32 (fun _ => 0)) 41)) _
  rw [← hw0]
  clear hw0
  refine H.out.mono ?_
  rintro e w1 ⟨r, hr, hrR, rfl, hB, hO⟩
  have HR := Lib.hid hrR
  have g0 := G0.out.only hO (by omega)
  have H2 := Lib.hid (subGeneric_any (iz := iy) g0 hye.lt rfl (hxe.el g0) hx (hye.el g0) hy)
  have hO1 := hO.below (B := w.heap.size) (Nat.le_refl _) (Nat.le_of_lt HS0.out)
  have HL1 := Lib.hid (HL0.out.trans hO1)
  have HZ := Lib.hid hB
  have K0 := Lib.hid g0
  clear hrR hO hO1 hB g0  G0 HL0 H
  go_wp2_with fail
  refine H2.out.mono ?_
  rintro e w2 ⟨r2, hr2, hrR2, rfl, hB2, hO2⟩
  have HR2 := Lib.hid hrR2
  have hZ := HZ.out.only hO2 (by omega)
  have hrg : w2.rangeAt w.heap.size 0 (byL 32 r) := ElAt.range (IsE.el (isE_el r) hZ)
  have hX := hB2
  have hlx : 4 * ix + 3 < (putE ls iy r2).length := by rw [putE_length]; exact hxe.lt
  have HX := Lib.hid hX
  have HB2 := Lib.hid hB2
  have HO2 := Lib.hid hO2
  clear hrR2 hZ hB2 hO2 hX K0 H2 HZ
  go_wp2_with (first
    | (refine wpList_load_mid (op := ⟨some 18, _, _, _, _, _⟩) rfl 41 _ rfl w.heap.size 0 rfl (byL 32 r) _ hrg hu2 rfl (hi2 _) ?_; clear hrg)
    | (refine wpList_store_mid (op := ⟨none, _, _, _, _, _⟩) rfl 41 _ _ rfl b (32 * ix) (byA 32 r) rfl rfl (HX.out.there hlx r) (hi3 r) (all_oneCell_toArray (byL_one _ _)) ?_))
  have hF := blk_setCells (r := r) HX.out hlx
  go_end0
  exact ⟨r, r2, hr, hr2, HR.out, HR2.out, rfl, hF.1, Only.of2 HL1.out (HO2.out.trans hF.2) hbl⟩
theorem addsubA {b T ix iy x y : Nat} {ls : List Nat} {w : World} (h0 : Blk w b T ls) (hxe : IsE ls ix x) (hye : IsE ls iy y) (hx : x < 2 ^ 256) (hy : y < 2 ^ 256) :
    Calls Tryd.prog 58 #[.pointer (some ⟨b, 32 * ix, none⟩), .pointer (some ⟨b, 32 * iy, none⟩)] w (AsA b T ix iy ls x y w) := by
  have H := Lib.hid (addsubGenericA h0 hxe hye hx hy)
  clear h0 hxe hye hx hy
  go_enter Tryd.func58, Tryd.ntmps58
  go_wp2_with fail
  refine H.out.mono ?_
  rintro e w' ⟨r, r2, hr, hr2, hR, hR2, rfl, hP⟩
  have hR := Lib.hid hR
  have hR2 := Lib.hid hR2
  have HP := Lib.hid hP
  clear hP
  go_wp2_with fail
  go_end0
  exact ⟨r, r2, hr, hr2, hR.out, hR2.out, rfl, HP.out⟩
theorem fpAddSubA {b T ix iy x y : Nat} {ls : List Nat} {w : World} (h0 : Blk w b T ls) (hxe : IsE ls ix x) (hye : IsE ls iy y) (hx : x < 2 ^ 256) (hy : y < 2 ^ 256) :
    Calls Tryd.prog 44 #[.pointer (some ⟨b, 32 * ix, none⟩), .pointer (some ⟨b, 32 * iy, none⟩)] w (AsA b T ix iy ls x y w) := by
  have H := Lib.hid (addsubA h0 hxe hye hx hy)
  clear h0 hxe hye hx hy
  go_enter Tryd.func44, Tryd.ntmps44
  go_wp2_with fail
  refine H.out.mono ?_
  rintro e w' ⟨r, r2, hr, hr2, hR, hR2, rfl, hP⟩
  have hR := Lib.hid hR
  have hR2 := Lib.hid hR2
  have HP := Lib.hid hP
  clear hP
  go_wp2_with fail
  go_end0
  exact ⟨r, r2, hr, hr2, hR.out, hR2.out, rfl, HP.out⟩
set_option maxRecDepth 100000 in
set_option maxHeartbeats 1600000 in
theorem addsubGenericB {bx bY Tx Ty ix iy x y : Nat} {xs ys : List Nat} {w : World} (h0 : Blk w bx Tx xs) (h1 : Blk w bY Ty ys) (hxe : IsE xs ix x) (hye : IsE ys iy y) (hn : bx ≠ bY) (hx : x < 2 ^ 256) (hy : y < 2 ^ 256) :
    Calls Tryd.prog 67 #[.pointer (some ⟨bx, 32 * ix, none⟩), .pointer (some ⟨bY, 32 * iy, none⟩)] w (AsB bx bY Tx Ty ix iy xs ys x y w) := by
  have hu2 := Tryd.underlying41
  have hi2 : ∀ f, (Tryd.prog.info? 41).map (·.size) = some (byL 32 f).length := by intro f; rw [byL_length]; kernel_rfl
  have hi3 : ∀ f, (Tryd.prog.info? 41).map (·.size) = some (byA 32 f).size := by intro f; rw [byA_size]; kernel_rfl
  have hbl := h0.lt
  have hbl2 := h1.lt
  obtain ⟨w0, hw0⟩ : ∃ w0, w0 = w.alloc (Obj.cells (bfA 32 (fun _ => 0)) 41) := ⟨_, rfl⟩
  have hZ0 : Blk w0 w.heap.size 41 (elL 0) := by subst hw0; exact blk_zero (heap_alloc_new _ _)
  have hL0 : Below w.heap.size w w0 := by subst hw0; exact (Below.refl _ _).alloc (Nat.le_refl _) _
  have g0 := h0.below hL0 hbl
  have g1 := h1.below hL0 hbl2
  have H := Lib.hid (addGeneric_any (iz := 0) hZ0 (by simp [elL]) rfl (hxe.el g0) hx (hye.el g1) hy)
  have G0 := Lib.hid g0
  have G1 := Lib.hid g1
  clear g1
  have HL0 := Lib.hid hL0
  have HS0 := Lib.hid hZ0.lt
  clear hZ0 hL0 g0
  go_enter Tryd.func67, Tryd.ntmps67
  go_wp2_with fail
  change Calls _ _ _ (w.alloc (Obj.cells (bfA 32 (fun _ => 0)) 41)) _
  rw [← hw0]
  clear hw0
  refine H.out.mono ?_
  rintro e w1 ⟨r, hr, hrR, rfl, hB, hO⟩
  have HR := Lib.hid hrR
  have g0 := G0.out.only hO (by omega)
  have g1 := G1.out.only hO (by omega)
  have H2 := Lib.hid (subGeneric_any (iz := iy) g1 hye.lt rfl (hxe.el g0) hx (hye.el g1) hy)
  have hO1 := hO.below (B := w.heap.size) (Nat.le_refl _) (Nat.le_of_lt HS0.out)
  have HL1 := Lib.hid (HL0.out.trans hO1)
  have HZ := Lib.hid hB
  have K0 := Lib.hid g0
  clear hrR hO hO1 hB g0 g1 G1 G0 HL0 H
  go_wp2_with fail
  refine H2.out.mono ?_
  rintro e w2 ⟨r2, hr2, hrR2, rfl, hB2, hO2⟩
  have HR2 := Lib.hid hrR2
  have hZ := HZ.out.only hO2 (by omega)
  have hrg : w2.rangeAt w.heap.size 0 (byL 32 r) := ElAt.range (IsE.el (isE_el r) hZ)
  have hX := K0.out.only hO2 hn
  have hlx := hxe.lt
  have HX := Lib.hid hX
  have HB2 := Lib.hid hB2
  have HO2 := Lib.hid hO2
  clear hrR2 hZ hB2 hO2 hX K0 H2 HZ
  go_wp2_with (first
    | (refine wpList_load_mid (op := ⟨some 18, _, _, _, _, _⟩) rfl 41 _ rfl w.heap.size 0 rfl (byL 32 r) _ hrg hu2 rfl (hi2 _) ?_; clear hrg)
    | (refine wpList_store_mid (op := ⟨none, _, _, _, _, _⟩) rfl 41 _ _ rfl bx (32 * ix) (byA 32 r) rfl rfl (HX.out.there hlx r) (hi3 r) (all_oneCell_toArray (byL_one _ _)) ?_))
  have hF := blk_setCells (r := r) HX.out hlx
  go_end0
  exact ⟨r, r2, hr, hr2, HR.out, HR2.out, rfl, hF.1, HB2.out.only hF.2 (Ne.symm hn), Only2.of HL1.out HO2.out hF.2 hbl hbl2⟩
theorem addsubB {bx bY Tx Ty ix iy x y : Nat} {xs ys : List Nat} {w : World} (h0 : Blk w bx Tx xs) (h1 : Blk w bY Ty ys) (hxe : IsE xs ix x) (hye : IsE ys iy y) (hn : bx ≠ bY) (hx : x < 2 ^ 256) (hy : y < 2 ^ 256) :
    Calls Tryd.prog 58 #[.pointer (some ⟨bx, 32 * ix, none⟩), .pointer (some ⟨bY, 32 * iy, none⟩)] w (AsB bx bY Tx Ty ix iy xs ys x y w) := by
  have H := Lib.hid (addsubGenericB h0 h1 hxe hye hn hx hy)
  clear h0 h1 hxe hye hn hx hy
  go_enter Tryd.func58, Tryd.ntmps58
  go_wp2_with fail
  refine H.out.mono ?_
  rintro e w' ⟨r, r2, hr, hr2, hR, hR2, rfl, hP⟩
  have hR := Lib.hid hR
  have hR2 := Lib.hid hR2
  have HP := Lib.hid hP
  clear hP
  go_wp2_with fail
  go_end0
  exact ⟨r, r2, hr, hr2, hR.out, hR2.out, rfl, HP.out⟩
theorem fpAddSubB {bx bY Tx Ty ix iy x y : Nat} {xs ys : List Nat} {w : World} (h0 : Blk w bx Tx xs) (h1 : Blk w bY Ty ys) (hxe : IsE xs ix x) (hye : IsE ys iy y) (hn : bx ≠ bY) (hx : x < 2 ^ 256) (hy : y < 2 ^ 256) :
    Calls Tryd.prog 44 #[.pointer (some ⟨bx, 32 * ix, none⟩), .pointer (some ⟨bY, 32 * iy, none⟩)] w (AsB bx bY Tx Ty ix iy xs ys x y w) := by
  have H := Lib.hid (addsubB h0 h1 hxe hye hn hx hy)
  clear h0 h1 hxe hye hn hx hy
  go_enter Tryd.func44, Tryd.ntmps44
  go_wp2_with fail
  refine H.out.mono ?_
  rintro e w' ⟨r, r2, hr, hr2, hR, hR2, rfl, hP⟩
  have hR := Lib.hid hR
  have hR2 := Lib.hid hR2
  have HP := Lib.hid hP
  clear hP
  go_wp2_with fail
  go_end0
  exact ⟨r, r2, hr, hr2, hR.out, hR2.out, rfl, HP.out⟩
end Go.Proofs.YteehdjkmjncehaaDoor
