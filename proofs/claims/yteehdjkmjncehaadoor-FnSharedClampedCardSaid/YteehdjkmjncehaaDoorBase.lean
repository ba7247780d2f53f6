
/-
  What binary.LittleEndian's Uint64 and PutUint64, and math/bits' Add64, Sub64 and Mul64 do over this program, said of blocks that hold numbers of 64 bits byte by byte.
-/
import Derived.Test.YteehdjkmjncehaaDoorRows
import Derived.WalkKit
import Derived.WalkSpells
import Derived.WalkLawsBesides
import Derived.BigQuiet
import Derived.Deep.QuietTactic
import Derived.Deep.Draws
import Derived.Lib.Hide
import Derived.Lib.EndianBits
import Derived.RowKit3
import Derived.Lib.UnsafeStr
import Derived.Stop.LaidErr
import Derived.Laws.IdiomCopy
import Derived.StillTailTactics
namespace Go.Proofs.YteehdjkmjncehaaDoor
open Go.RowKit

/-- Byte j of a number. -/
def bv (l j : Nat) : Value := .int .u8 ((l / 256 ^ j % 256 : Nat) : Int)
/-- The eight bytes of a number of 64 bits. -/
def b8 (l : Nat) : List Value := (List.range 8).map (bv l)
/-- The bytes of numbers of 64 bits. -/
def arr8 (ls : List Nat) : List Value := ls.flatMap b8
/-- A block holds numbers of 64 bits. -/
def Blk (w : World) (b T : Nat) (ls : List Nat) : Prop := w.heap[b]? = some (.cells (arr8 ls).toArray T (0, 0))
/-- At an address there lies a number of 64 bits. -/
def LimbAt (w : World) (b o l : Nat) : Prop := ∃ T ls k, Blk w b T ls ∧ ls[k]? = some l ∧ o = 8 * k
/-- Of what was there nothing has turned but block b. -/
structure Only (b : Nat) (w w' : World) : Prop where
  os : w'.os = w.os
  tape : w'.tape = w.tape
  output : w'.output = w.output
  size : w.heap.size ≤ w'.heap.size
  block : ∀ k, k < w.heap.size → k ≠ b → w'.heap[k]? = w.heap[k]?

theorem Only.refl (b : Nat) (w : World) : Only b w w := ⟨rfl, rfl, rfl, Nat.le_refl _, fun _ _ _ => rfl⟩
theorem Only.trans {b : Nat} {w w' w'' : World} (h : Only b w w') (h' : Only b w' w'') : Only b w w'' :=
  ⟨h'.os.trans h.os, h'.tape.trans h.tape, h'.output.trans h.output, Nat.le_trans h.size h'.size, fun k hk hb => (h'.block k (Nat.lt_of_lt_of_le hk h.size) hb).trans (h.block k hk hb)⟩
theorem Only.of_below {b : Nat} {w w' : World} (h : Below w.heap.size w w') : Only b w w' := ⟨h.os, h.tape, h.output, h.size, fun k hk _ => h.block k hk⟩
theorem Only.drew {b : Nat} {w w' : World} (h : Only b w w') : Only b w w'.drew := ⟨h.os, h.tape, h.output, h.size, h.block⟩
theorem Only.undrew {b : Nat} {w w' : World} (h : Only b w.drew w') : Only b w w' := ⟨h.os, h.tape, h.output, h.size, h.block⟩
theorem Only.below {b B : Nat} {w w' : World} (h : Only b w w') (hb : B ≤ b) (hB : B ≤ w.heap.size) : Below B w w' :=
  ⟨h.os, h.tape, h.output, h.size, fun k hk => h.block k (by omega) (by omega)⟩
theorem below_undrew {B : Nat} {w w' : World} (h : Below B w.drew w') : Below B w w' := ⟨h.os, h.tape, h.output, h.size, h.block⟩

theorem Blk.lt {w : World} {b T : Nat} {ls : List Nat} (h : Blk w b T ls) : b < w.heap.size := by
  unfold Blk at h
  exact (Array.getElem?_eq_some_iff.1 h).1
theorem Blk.below {w w' : World} {b T B : Nat} {ls : List Nat} (h : Blk w b T ls) (hb : Below B w w') (hB : b < B) : Blk w' b T ls := by
  unfold Blk at *; rw [hb.block b hB]; exact h
theorem Blk.on {w w' : World} {b T : Nat} {ls : List Nat} (h : Blk w b T ls) (hb : Below w.heap.size w w') : Blk w' b T ls := h.below hb h.lt
theorem Blk.only {w w' : World} {b c T : Nat} {ls : List Nat} (h : Blk w b T ls) (ho : Only c w w') (hn : b ≠ c) : Blk w' b T ls := by
  unfold Blk at *; rw [ho.block b (Blk.lt h) hn]; exact h
theorem Blk.drew {w : World} {b T : Nat} {ls : List Nat} (h : Blk w b T ls) : Blk w.drew b T ls := h
theorem Blk.alloc {w : World} {b T : Nat} {ls : List Nat} (h : Blk w b T ls) (o : Obj) : Blk (w.alloc o) b T ls := by
  have := Below.heap_alloc w o b h.lt
  unfold Blk at *; rw [this]; exact h
theorem LimbAt.on {w w' : World} {b o l : Nat} (h : LimbAt w b o l) (hb : Below w.heap.size w w') : LimbAt w' b o l := by
  obtain ⟨T, ls, k, h1, h2, h3⟩ := h; exact ⟨T, ls, k, h1.on hb, h2, h3⟩
theorem LimbAt.drew {w : World} {b o l : Nat} (h : LimbAt w b o l) : LimbAt w.drew b o l := h

theorem b8_length (l : Nat) : (b8 l).length = 8 := by simp [b8]
theorem arr8_length : ∀ ls : List Nat, (arr8 ls).length = 8 * ls.length
  | [] => rfl
  | l :: t => by
    have := arr8_length t
    unfold arr8 at *
    simp only [List.flatMap_cons, List.length_append, List.length_cons, b8_length, this]; omega
theorem arr8_get (l : Nat) : ∀ (ls : List Nat) (k j : Nat), ls[k]? = some l → j < 8 → (arr8 ls)[8 * k + j]? = some (bv l j)
  | [], k, j, h, _ => by simp at h
  | m :: t, 0, j, h, hj => by
    simp at h; subst h
    unfold arr8
    rw [List.flatMap_cons, List.getElem?_append_left (by rw [b8_length]; omega)]
    simp [b8, hj]
  | m :: t, k + 1, j, h, hj => by
    have ih := arr8_get l t k j (by simpa using h) hj
    unfold arr8 at *
    rw [List.flatMap_cons, List.getElem?_append_right (by rw [b8_length]; omega), b8_length]
    rw [show 8 * (k + 1) + j - 8 = 8 * k + j from by omega]; exact ih
theorem arr8_set (l : Nat) : ∀ (ls : List Nat) (k i : Nat), k < ls.length → (arr8 (ls.set k l))[i]? = if 8 * k ≤ i ∧ i < 8 * k + 8 then some (bv l (i - 8 * k)) else (arr8 ls)[i]?
  | [], k, i, h => by simp at h
  | m :: t, 0, i, _ => by
    unfold arr8
    simp only [List.set_cons_zero, List.flatMap_cons]
    by_cases hi : i < 8
    · rw [if_pos (by omega), List.getElem?_append_left (by rw [b8_length]; omega)]
      simp [b8, hi]
    · rw [if_neg (by omega), List.getElem?_append_right (by rw [b8_length]; omega), List.getElem?_append_right (by rw [b8_length]; omega), b8_length, b8_length]
  | m :: t, k + 1, i, h => by
    have hk : k < t.length := by simpa using h
    have ih := arr8_set l t k (i - 8) hk
    unfold arr8 at *
    simp only [List.set_cons_succ, List.flatMap_cons]
    by_cases hi : i < 8
    · rw [if_neg (by omega), List.getElem?_append_left (by rw [b8_length]; omega), List.getElem?_append_left (by rw [b8_length]; omega)]
    · rw [List.getElem?_append_right (by rw [b8_length]; omega), List.getElem?_append_right (by rw [b8_length]; omega), b8_length, ih]
      by_cases h2 : 8 * k ≤ i - 8 ∧ i - 8 < 8 * k + 8
      · rw [if_pos h2, if_pos (by omega), show i - 8 - 8 * k = i - 8 * (k + 1) from by omega]
      · rw [if_neg h2, if_neg (by omega)]

theorem LimbAt.cell {w : World} {b o l : Nat} (h : LimbAt w b o l) (j : Nat) (hj : j < 8) : w.cell? ⟨b, o + j, none⟩ = some (bv l j) := by
  obtain ⟨T, ls, k, h1, h2, rfl⟩ := h
  rw [cell_of_row w b _ _ _ _ h1]
  have := arr8_get l ls k j h2 hj
  simpa using this

theorem bv_sum (l : Nat) (h : l < 18446744073709551616) : l % 256 + l / 256 % 256 * 256 + l / 65536 % 256 * 65536 + l / 16777216 % 256 * 16777216 + l / 4294967296 % 256 * 4294967296 + l / 1099511627776 % 256 * 1099511627776 + l / 281474976710656 % 256 * 281474976710656 + l / 72057594037927936 % 256 * 72057594037927936 = l := by omega

set_option maxHeartbeats 8000000 in
set_option maxRecDepth 100000 in
theorem u64_walk (g o c : Nat) (n0 n1 n2 n3 n4 n5 n6 n7 : Nat) (w : World) (h0 : n0 < 256) (h1 : n1 < 256) (h2 : n2 < 256) (h3 : n3 < 256) (h4 : n4 < 256) (h5 : n5 < 256) (h6 : n6 < 256) (h7 : n7 < 256)
    (c0 : w.cell? ⟨g, o, none⟩ = some (.int .u8 (n0 : Int))) (c1 : w.cell? ⟨g, o + 1, none⟩ = some (.int .u8 (n1 : Int))) (c2 : w.cell? ⟨g, o + 2, none⟩ = some (.int .u8 (n2 : Int))) (c3 : w.cell? ⟨g, o + 3, none⟩ = some (.int .u8 (n3 : Int)))
    (c4 : w.cell? ⟨g, o + 4, none⟩ = some (.int .u8 (n4 : Int))) (c5 : w.cell? ⟨g, o + 5, none⟩ = some (.int .u8 (n5 : Int))) (c6 : w.cell? ⟨g, o + 6, none⟩ = some (.int .u8 (n6 : Int))) (c7 : w.cell? ⟨g, o + 7, none⟩ = some (.int .u8 (n7 : Int))) :
    Calls Tryd.prog 77 #[.agg #[], .slice (some ⟨g, o, none⟩) 8 c] w fun e w' => e = .returned (.int .u64 ((n0 + n1 * 256 + n2 * 65536 + n3 * 16777216 + n4 * 4294967296 + n5 * 1099511627776 + n6 * 281474976710656 + n7 * 72057594037927936 : Nat) : Int)) ∧ Below w.heap.size w w' := by
  have d0 := cell?_alloc_old (.cells #[] 76) c0
  have d1 := cell?_alloc_old (.cells #[] 76) c1
  have d2 := cell?_alloc_old (.cells #[] 76) c2
  have d3 := cell?_alloc_old (.cells #[] 76) c3
  have d4 := cell?_alloc_old (.cells #[] 76) c4
  have d5 := cell?_alloc_old (.cells #[] 76) c5
  have d6 := cell?_alloc_old (.cells #[] 76) c6
  have d7 := cell?_alloc_old (.cells #[] 76) c7
  have hv : ((n0 + n1 * 256 + n2 * 65536 + n3 * 16777216 + n4 * 4294967296 + n5 * 1099511627776 + n6 * 281474976710656 + n7 * 72057594037927936 : Nat) : Int) = (n0 : Int) + (n1 : Int) * 256 + (n2 : Int) * 65536 + (n3 : Int) * 16777216 + (n4 : Int) * 4294967296 + (n5 : Int) * 1099511627776 + (n6 : Int) * 281474976710656 + (n7 : Int) * 72057594037927936 := by omega
  have Hv := Lib.hid hv
  clear hv
  go_enter Tryd.func77, Tryd.ntmps77
  go_wp2
  go_quiet (fail)
  go_wp2
  go_ret
  refine ⟨?_, ((Below.refl _ w).alloc (Nat.le_refl _) _).trans ⟨rfl, rfl, rfl, Nat.le_refl _, fun _ _ => rfl⟩⟩
  simp (disch := omega) only [u64_or8, u64_or16, u64_or24, u64_or32, u64_or40, u64_or48, u64_or56]
  rw [Hv.out]
  rfl

theorem cells8_eq {k l : Nat} {ls : List Nat} (hk : k < ls.length) : ∀ i : Nat, ((((((((((arr8 ls).toArray.setIfInBounds (8 * k) (bv l 0)).setIfInBounds (8 * k + 1) (bv l 1)).setIfInBounds (8 * k + 2) (bv l 2)).setIfInBounds (8 * k + 3) (bv l 3)).setIfInBounds (8 * k + 4) (bv l 4)).setIfInBounds (8 * k + 5) (bv l 5)).setIfInBounds (8 * k + 6) (bv l 6)).setIfInBounds (8 * k + 7) (bv l 7)))[i]? = (arr8 (ls.set k l)).toArray[i]? := by
  intro i
  have hl := arr8_length ls
  have e := arr8_set l ls k i hk
  simp only [List.getElem?_toArray, Array.getElem?_setIfInBounds, Array.size_setIfInBounds, List.size_toArray] at e ⊢
  rw [e]
  by_cases hi : 8 * k ≤ i ∧ i < 8 * k + 8
  · rw [if_pos hi]
    obtain ⟨j, rfl⟩ : ∃ j, i = 8 * k + j := ⟨i - 8 * k, by omega⟩
    have hj : j < 8 := by omega
    rw [show 8 * k + j - 8 * k = j from by omega]
    have hb : 8 * k + j < (arr8 ls).length := by omega
    rcases (show j = 0 ∨ j = 1 ∨ j = 2 ∨ j = 3 ∨ j = 4 ∨ j = 5 ∨ j = 6 ∨ j = 7 from by omega) with rfl | rfl | rfl | rfl | rfl | rfl | rfl | rfl
    · rw [if_neg (by omega), if_neg (by omega), if_neg (by omega), if_neg (by omega), if_neg (by omega), if_neg (by omega), if_neg (by omega), if_pos (by omega), if_pos (by omega)]
    · rw [if_neg (by omega), if_neg (by omega), if_neg (by omega), if_neg (by omega), if_neg (by omega), if_neg (by omega), if_pos (by omega), if_pos (by omega)]
    · rw [if_neg (by omega), if_neg (by omega), if_neg (by omega), if_neg (by omega), if_neg (by omega), if_pos (by omega), if_pos (by omega)]
    · rw [if_neg (by omega), if_neg (by omega), if_neg (by omega), if_neg (by omega), if_pos (by omega), if_pos (by omega)]
    · rw [if_neg (by omega), if_neg (by omega), if_neg (by omega), if_pos (by omega), if_pos (by omega)]
    · rw [if_neg (by omega), if_neg (by omega), if_pos (by omega), if_pos (by omega)]
    · rw [if_neg (by omega), if_pos (by omega), if_pos (by omega)]
    · rw [if_pos (by omega), if_pos (by omega)]
  · rw [if_neg hi]
    rw [if_neg (by omega), if_neg (by omega), if_neg (by omega), if_neg (by omega), if_neg (by omega), if_neg (by omega), if_neg (by omega), if_neg (by omega)]

theorem set_step {w : World} {b T o : Nat} {v : Value} {cs : Array Value} (h : w.heap[b]? = some (.cells cs T (0, 0))) : (w.setCell ⟨b, o, none⟩ v).heap[b]? = some (.cells (cs.setIfInBounds o v) T (0, 0)) :=
  heap_setCell_same w b o cs T v h

/-- Eight cells of a block that is not frozen, from o on, are overwritten. -/
theorem blk_cells8 {w : World} {b T k l : Nat} {ls : List Nat} (h : Blk w b T ls) (hk : k < ls.length) :
    Blk ((((((((w.setCell ⟨b, 8 * k, none⟩ (bv l 0)).setCell ⟨b, 8 * k + 1, none⟩ (bv l 1)).setCell ⟨b, 8 * k + 2, none⟩ (bv l 2)).setCell ⟨b, 8 * k + 3, none⟩ (bv l 3)).setCell ⟨b, 8 * k + 4, none⟩ (bv l 4)).setCell ⟨b, 8 * k + 5, none⟩ (bv l 5)).setCell ⟨b, 8 * k + 6, none⟩ (bv l 6)).setCell ⟨b, 8 * k + 7, none⟩ (bv l 7)) b T (ls.set k l) := by
  have hs := set_step (o := 8 * k + 7) (v := bv l 7) (set_step (o := 8 * k + 6) (v := bv l 6) (set_step (o := 8 * k + 5) (v := bv l 5) (set_step (o := 8 * k + 4) (v := bv l 4)
    (set_step (o := 8 * k + 3) (v := bv l 3) (set_step (o := 8 * k + 2) (v := bv l 2) (set_step (o := 8 * k + 1) (v := bv l 1) (set_step (o := 8 * k) (v := bv l 0) (show w.heap[b]? = some (.cells (arr8 ls).toArray T (0, 0)) from h))))))))
  refine hs.trans ?_
  suffices he : ∀ cs : Array Value, cs = (arr8 (ls.set k l)).toArray → some (Obj.cells cs T (0, 0)) = some (Obj.cells (arr8 (ls.set k l)).toArray T (0, 0)) from he _ (by
    apply Array.ext_getElem?
    exact cells8_eq hk)
  rintro cs rfl; rfl

theorem only_setCell (w : World) (b o : Nat) (v : Value) : Only b w (w.setCell ⟨b, o, none⟩ v) :=
  ⟨rfl, rfl, rfl, by simp [World.setCell], fun k _ hb => Below.heap_setCell _ _ _ _ hb⟩

theorem only_alloc (b : Nat) (w : World) (o : Obj) : Only b w (w.alloc o) :=
  ⟨rfl, rfl, rfl, by simp, fun k hk _ => Below.heap_alloc _ _ _ hk⟩

set_option maxHeartbeats 8000000 in
set_option maxRecDepth 100000 in
theorem put64_walk (g o c v : Nat) (hv : v < 18446744073709551616) (x0 x1 x2 x3 x4 x5 x6 x7 : Value) (w : World)
    (c0 : w.cell? ⟨g, o, none⟩ = some x0) (c1 : w.cell? ⟨g, o + 1, none⟩ = some x1) (c2 : w.cell? ⟨g, o + 2, none⟩ = some x2) (c3 : w.cell? ⟨g, o + 3, none⟩ = some x3) (c4 : w.cell? ⟨g, o + 4, none⟩ = some x4) (c5 : w.cell? ⟨g, o + 5, none⟩ = some x5) (c6 : w.cell? ⟨g, o + 6, none⟩ = some x6) (c7 : w.cell? ⟨g, o + 7, none⟩ = some x7)
    (f0 : w.frozen? ⟨g, o, none⟩ = false) (f1 : w.frozen? ⟨g, o + 1, none⟩ = false) (f2 : w.frozen? ⟨g, o + 2, none⟩ = false) (f3 : w.frozen? ⟨g, o + 3, none⟩ = false) (f4 : w.frozen? ⟨g, o + 4, none⟩ = false) (f5 : w.frozen? ⟨g, o + 5, none⟩ = false) (f6 : w.frozen? ⟨g, o + 6, none⟩ = false) (f7 : w.frozen? ⟨g, o + 7, none⟩ = false) :
    Calls Tryd.prog 79 #[.agg #[], .slice (some ⟨g, o, none⟩) 8 c, .int .u64 v] w fun e w' => e = .returned (.tuple #[]) ∧
      w' = ((((((((((w.alloc (.cells #[] 76)).setCell ⟨g, o, none⟩ (bv v 0)).setCell ⟨g, o + 1, none⟩ (bv v 1)).setCell ⟨g, o + 2, none⟩ (bv v 2)).setCell ⟨g, o + 3, none⟩ (bv v 3)).setCell ⟨g, o + 4, none⟩ (bv v 4)).setCell ⟨g, o + 5, none⟩ (bv v 5)).setCell ⟨g, o + 6, none⟩ (bv v 6)).setCell ⟨g, o + 7, none⟩ (bv v 7))) := by
  have d0 := cell?_alloc_old (.cells #[] 76) c0
  have fa0 := (frozen?_alloc_cells w #[] 76 ⟨g, o, none⟩).trans f0
  have d1 := cell?_alloc_old (.cells #[] 76) c1
  have fa1 := (frozen?_alloc_cells w #[] 76 ⟨g, o + 1, none⟩).trans f1
  have d2 := cell?_alloc_old (.cells #[] 76) c2
  have fa2 := (frozen?_alloc_cells w #[] 76 ⟨g, o + 2, none⟩).trans f2
  have d3 := cell?_alloc_old (.cells #[] 76) c3
  have fa3 := (frozen?_alloc_cells w #[] 76 ⟨g, o + 3, none⟩).trans f3
  have d4 := cell?_alloc_old (.cells #[] 76) c4
  have fa4 := (frozen?_alloc_cells w #[] 76 ⟨g, o + 4, none⟩).trans f4
  have d5 := cell?_alloc_old (.cells #[] 76) c5
  have fa5 := (frozen?_alloc_cells w #[] 76 ⟨g, o + 5, none⟩).trans f5
  have d6 := cell?_alloc_old (.cells #[] 76) c6
  have fa6 := (frozen?_alloc_cells w #[] 76 ⟨g, o + 6, none⟩).trans f6
  have d7 := cell?_alloc_old (.cells #[] 76) c7
  have fa7 := (frozen?_alloc_cells w #[] 76 ⟨g, o + 7, none⟩).trans f7
  go_enter Tryd.func79, Tryd.ntmps79
  go_wp2
  go_end0
  refine ⟨rfl, ?_⟩
  have e0 : bv v 0 = .int .u8 ((v : Int) % 256) := by unfold bv; congr 1; omega
  have e1 : bv v 1 = .int .u8 ((v : Int) / 256 % 256) := by unfold bv; congr 1
  have e2 : bv v 2 = .int .u8 ((v : Int) / 65536 % 256) := by unfold bv; congr 1
  have e3 : bv v 3 = .int .u8 ((v : Int) / 16777216 % 256) := by unfold bv; congr 1
  have e4 : bv v 4 = .int .u8 ((v : Int) / 4294967296 % 256) := by unfold bv; congr 1
  have e5 : bv v 5 = .int .u8 ((v : Int) / 1099511627776 % 256) := by unfold bv; congr 1
  have e6 : bv v 6 = .int .u8 ((v : Int) / 281474976710656 % 256) := by unfold bv; congr 1
  have e7 : bv v 7 = .int .u8 ((v : Int) / 72057594037927936) := by unfold bv; congr 1; omega
  rw [e0, e1, e2, e3, e4, e5, e6, e7]

/-- binary.LittleEndian.Uint64. -/
theorem u64_any {b o c l : Nat} {w : World} (hb : LimbAt w b o l) (hl : l < 18446744073709551616) :
    Calls Tryd.prog 77 #[.agg #[], .slice (some ⟨b, o, none⟩) 8 c] w fun e w' => e = .returned (.int .u64 (l : Int)) ∧ Below w.heap.size w w' := by
  have h := u64_walk b o c (l / 256 ^ 0 % 256) (l / 256 ^ 1 % 256) (l / 256 ^ 2 % 256) (l / 256 ^ 3 % 256) (l / 256 ^ 4 % 256) (l / 256 ^ 5 % 256) (l / 256 ^ 6 % 256) (l / 256 ^ 7 % 256) w
    (Nat.mod_lt _ (by decide)) (Nat.mod_lt _ (by decide)) (Nat.mod_lt _ (by decide)) (Nat.mod_lt _ (by decide)) (Nat.mod_lt _ (by decide)) (Nat.mod_lt _ (by decide)) (Nat.mod_lt _ (by decide)) (Nat.mod_lt _ (by decide))
    (hb.cell 0 (by decide)) (hb.cell 1 (by decide)) (hb.cell 2 (by decide)) (hb.cell 3 (by decide)) (hb.cell 4 (by decide)) (hb.cell 5 (by decide)) (hb.cell 6 (by decide)) (hb.cell 7 (by decide))
  have e := bv_sum l hl
  simp only [Nat.reducePow, Nat.div_one] at h
  rw [e] at h
  exact h

/-- binary.LittleEndian.PutUint64. -/
theorem put64_any {b c k v T : Nat} {ls : List Nat} {w : World} (hb : Blk w b T ls) (hk : k < ls.length) (hv : v < 18446744073709551616) :
    Calls Tryd.prog 79 #[.agg #[], .slice (some ⟨b, 8 * k, none⟩) 8 c, .int .u64 v] w fun e w' => e = .returned (.tuple #[]) ∧ Blk w' b T (ls.set k v) ∧ Only b w w' := by
  obtain ⟨l, hl⟩ : ∃ l, ls[k]? = some l := ⟨ls[k], by simp [hk]⟩
  have hc : LimbAt w b (8 * k) l := ⟨T, ls, k, hb, hl, rfl⟩
  have hf : ∀ j, w.frozen? ⟨b, j, none⟩ = false := fun j => frozen_of_row w b j _ _ hb
  refine (put64_walk b (8 * k) c v hv _ _ _ _ _ _ _ _ w (hc.cell 0 (by decide)) (hc.cell 1 (by decide)) (hc.cell 2 (by decide)) (hc.cell 3 (by decide)) (hc.cell 4 (by decide)) (hc.cell 5 (by decide)) (hc.cell 6 (by decide)) (hc.cell 7 (by decide)) (hf _) (hf _) (hf _) (hf _) (hf _) (hf _) (hf _) (hf _)).mono fun e w' ⟨he, hw⟩ => ?_
  subst hw
  refine ⟨he, blk_cells8 (hb.alloc _) hk, ?_⟩
  exact (only_alloc b w _).trans (((((((((only_setCell _ b _ _).trans (only_setCell _ b _ _)).trans (only_setCell _ b _ _)).trans (only_setCell _ b _ _)).trans (only_setCell _ b _ _)).trans (only_setCell _ b _ _)).trans (only_setCell _ b _ _)).trans (only_setCell _ b _ _)))
end Go.Proofs.YteehdjkmjncehaaDoor
