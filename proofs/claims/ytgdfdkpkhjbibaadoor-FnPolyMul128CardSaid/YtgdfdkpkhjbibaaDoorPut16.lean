/-
  PutUint64 into a longer slice.
-/
import Derived.Test.YtgdfdkpkhjbibaaDoorBase
namespace Go.Proofs.YtgdfdkpkhjbibaaDoor
open Go.RowKit
set_option maxHeartbeats 8000000 in
set_option maxRecDepth 100000 in
theorem put16_walk (g o c v : Nat) (hv : v < 18446744073709551616) (x0 x1 x2 x3 x4 x5 x6 x7 : Value) (w : World)
    (c0 : w.cell? ⟨g, o, none⟩ = some x0) (c1 : w.cell? ⟨g, o + 1, none⟩ = some x1) (c2 : w.cell? ⟨g, o + 2, none⟩ = some x2) (c3 : w.cell? ⟨g, o + 3, none⟩ = some x3) (c4 : w.cell? ⟨g, o + 4, none⟩ = some x4) (c5 : w.cell? ⟨g, o + 5, none⟩ = some x5) (c6 : w.cell? ⟨g, o + 6, none⟩ = some x6) (c7 : w.cell? ⟨g, o + 7, none⟩ = some x7)
    (f0 : w.frozen? ⟨g, o, none⟩ = false) (f1 : w.frozen? ⟨g, o + 1, none⟩ = false) (f2 : w.frozen? ⟨g, o + 2, none⟩ = false) (f3 : w.frozen? ⟨g, o + 3, none⟩ = false) (f4 : w.frozen? ⟨g, o + 4, none⟩ = false) (f5 : w.frozen? ⟨g, o + 5, none⟩ = false) (f6 : w.frozen? ⟨g, o + 6, none⟩ = false) (f7 : w.frozen? ⟨g, o + 7, none⟩ = false) :
    Calls Tryd.prog 124 #[.agg #[], .slice (some ⟨g, o, none⟩) 16 c, .int .u64 v] w fun e w' => e = .returned (.tuple #[]) ∧
      w' = ((((((((((w.alloc (.cells #[] 129)).setCell ⟨g, o, none⟩ (bv v 0)).setCell ⟨g, o + 1, none⟩ (bv v 1)).setCell ⟨g, o + 2, none⟩ (bv v 2)).setCell ⟨g, o + 3, none⟩ (bv v 3)).setCell ⟨g, o + 4, none⟩ (bv v 4)).setCell ⟨g, o + 5, none⟩ (bv v 5)).setCell ⟨g, o + 6, none⟩ (bv v 6)).setCell ⟨g, o + 7, none⟩ (bv v 7))) := by
  have d0 := cell?_alloc_old (.cells #[] 129) c0
  have fa0 := (frozen?_alloc_cells w #[] 129 ⟨g, o, none⟩).trans f0
  have d1 := cell?_alloc_old (.cells #[] 129) c1
  have fa1 := (frozen?_alloc_cells w #[] 129 ⟨g, o + 1, none⟩).trans f1
  have d2 := cell?_alloc_old (.cells #[] 129) c2
  have fa2 := (frozen?_alloc_cells w #[] 129 ⟨g, o + 2, none⟩).trans f2
  have d3 := cell?_alloc_old (.cells #[] 129) c3
  have fa3 := (frozen?_alloc_cells w #[] 129 ⟨g, o + 3, none⟩).trans f3
  have d4 := cell?_alloc_old (.cells #[] 129) c4
  have fa4 := (frozen?_alloc_cells w #[] 129 ⟨g, o + 4, none⟩).trans f4
  have d5 := cell?_alloc_old (.cells #[] 129) c5
  have fa5 := (frozen?_alloc_cells w #[] 129 ⟨g, o + 5, none⟩).trans f5
  have d6 := cell?_alloc_old (.cells #[] 129) c6
  have fa6 := (frozen?_alloc_cells w #[] 129 ⟨g, o + 6, none⟩).trans f6
  have d7 := cell?_alloc_old (.cells #[] 129) c7
  have fa7 := (frozen?_alloc_cells w #[] 129 ⟨g, o + 7, none⟩).trans f7
  go_enter Tryd.func124, Tryd.ntmps124
  go_wp2
  go_end0
  refine ⟨rfl, ?_⟩
  have e0 : bv v 0 = .int .u8 ((v : Int) % 256) := by unfold bv; congr 1; omega
  have e1 : bv v 1 = .int .u8 ((v : Int) / 256 % 256) := by unfold bv; congr 1
  have e2 : bv v 2 = .int .u8 ((v : Int) / 65536 % 256) := by unfold bv; congr 1
  have e3 : bv v 3 = .int .u8 ((v : Int) / 16777216 % 256) := by unfold bv; congr 1
  have e4 : bv v 4 = .int .u8 ((v : Int) / 4294967296 % 256) := by unfold bv; congr 1
  have e5 : bv v 5 = .int .u8 ((v : Int) / 1099511627776 % 256) := by unfold bv; congr 1
  have e6 : bv v 6 = .int .u8 ((v : Int) / 281474976710656 % 256) := by unfold bv; congr 1
  have e7 : bv v 7 = .int .u8 ((v : Int) / 72057594037927936) := by unfold bv; congr 1; omega
  rw [e0, e1, e2, e3, e4, e5, e6, e7]

/-- binary.LittleEndian.PutUint64. -/
theorem put16_any {b c k v T : Nat} {ls : List Nat} {w : World} (hb : Blk w b T ls) (hk : k < ls.length) (hv : v < 18446744073709551616) :
    Calls Tryd.prog 124 #[.agg #[], .slice (some ⟨b, 8 * k, none⟩) 16 c, .int .u64 v] w fun e w' => e = .returned (.tuple #[]) ∧ Blk w' b T (ls.set k v) ∧ Only b w w' := by
  obtain ⟨l, hl⟩ : ∃ l, ls[k]? = some l := ⟨ls[k], by simp [hk]⟩
  have hc : LimbAt w b (8 * k) l := ⟨T, ls, k, hb, hl, rfl⟩
  have hf : ∀ j, w.frozen? ⟨b, j, none⟩ = false := fun j => frozen_of_row w b j _ _ hb
  refine (put16_walk b (8 * k) c v hv _ _ _ _ _ _ _ _ w (hc.cell 0 (by decide)) (hc.cell 1 (by decide)) (hc.cell 2 (by decide)) (hc.cell 3 (by decide)) (hc.cell 4 (by decide)) (hc.cell 5 (by decide)) (hc.cell 6 (by decide)) (hc.cell 7 (by decide)) (hf _) (hf _) (hf _) (hf _) (hf _) (hf _) (hf _) (hf _)).mono fun e w' ⟨he, hw⟩ => ?_
  subst hw
  refine ⟨he, blk_cells8 (hb.alloc _) hk, ?_⟩
  exact (only_alloc b w _).trans (((((((((only_setCell _ b _ _).trans (only_setCell _ b _ _)).trans (only_setCell _ b _ _)).trans (only_setCell _ b _ _)).trans (only_setCell _ b _ _)).trans (only_setCell _ b _ _)).trans (only_setCell _ b _ _)).trans (only_setCell _ b _ _)))
end Go.Proofs.YtgdfdkpkhjbibaaDoor
