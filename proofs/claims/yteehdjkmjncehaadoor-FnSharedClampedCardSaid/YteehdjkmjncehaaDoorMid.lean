
/-
  Elements inside blocks of several: a load and a store of 32 bytes.
-/
import Derived.Test.YteehdjkmjncehaaDoorByt
namespace Go.Proofs.YteehdjkmjncehaaDoor
open Go.RowKit
theorem setCells_heap (b : Nat) : ∀ (vs : List Value) (o : Nat) (w : World) (cs : Array Value) (T : Nat), w.heap[b]? = some (.cells cs T (0, 0)) →
    (∃ cs' : Array Value, (w.setCells b o vs).heap[b]? = some (.cells cs' T (0, 0)) ∧ ∀ i, cs'[i]? = if o ≤ i ∧ i < o + vs.length ∧ i < cs.size then vs[i - o]? else cs[i]?) ∧ Only b w (w.setCells b o vs)
  | [], o, w, cs, T, h => ⟨⟨cs, h, fun i => by rw [if_neg (by simp; omega)]⟩, Only.refl b w⟩
  | v :: vs, o, w, cs, T, h => by
    have h1 := set_step (o := o) (v := v) h
    obtain ⟨⟨cs', h2, h3⟩, h4⟩ := setCells_heap b vs (o + 1) _ _ T h1
    refine ⟨⟨cs', h2, fun i => ?_⟩, (only_setCell w b o v).trans h4⟩
    rw [h3 i, Array.getElem?_setIfInBounds, Array.size_setIfInBounds]
    simp only [List.length_cons]
    by_cases e : i = o
    · subst e
      rw [if_neg (by omega), if_pos rfl]
      by_cases hs : i < cs.size
      · rw [if_pos hs, if_pos (by omega)]; simp
      · rw [if_neg hs, if_neg (by omega), Array.getElem?_eq_none (by omega)]
    · rw [if_neg (show ¬ o = i by omega)]
      by_cases hs : o + 1 ≤ i ∧ i < o + 1 + vs.length ∧ i < cs.size
      · rw [if_pos hs, if_pos (by omega), show i - o = (i - (o + 1)) + 1 by omega, List.getElem?_cons_succ]
      · rw [if_neg hs, if_neg (by omega)]
theorem putE_get (ls : List Nat) (i r k : Nat) (hl : 4 * i + 3 < ls.length) : (putE ls i r)[k]? = if 4 * i ≤ k ∧ k < 4 * i + 4 then some (limb r (k - 4 * i)) else ls[k]? := by
  unfold putE
  by_cases h : 4 * i ≤ k ∧ k < 4 * i + 4
  · rw [if_pos h]
    rcases (show k = 4 * i ∨ k = 4 * i + 1 ∨ k = 4 * i + 2 ∨ k = 4 * i + 3 by omega) with rfl | rfl | rfl | rfl
    · rw [List.getElem?_set_ne (by omega), List.getElem?_set_ne (by omega), List.getElem?_set_ne (by omega), List.getElem?_set_self (by omega)]; simp
    · rw [List.getElem?_set_ne (by omega), List.getElem?_set_ne (by omega), List.getElem?_set_self (by simp; omega)]; simp
    · rw [List.getElem?_set_ne (by omega), List.getElem?_set_self (by simp; omega)]; simp
    · rw [List.getElem?_set_self (by simp; omega)]; simp
  · rw [if_neg h, List.getElem?_set_ne (by omega), List.getElem?_set_ne (by omega), List.getElem?_set_ne (by omega), List.getElem?_set_ne (by omega)]
theorem putE_length (ls : List Nat) (i r : Nat) : (putE ls i r).length = ls.length := by simp [putE]
theorem blk_setCells {w : World} {b T i r : Nat} {ls : List Nat} (h : Blk w b T ls) (hl : 4 * i + 3 < ls.length) : Blk (w.setCells b (32 * i) (byA 32 r).toList) b T (putE ls i r) ∧ Only b w (w.setCells b (32 * i) (byA 32 r).toList) := by
  obtain ⟨⟨cs', h1, h2⟩, h3⟩ := setCells_heap b (byA 32 r).toList (32 * i) w _ T h
  refine ⟨?_, h3⟩
  unfold Blk
  rw [h1]
  suffices he : cs' = (arr8 (putE ls i r)).toArray by rw [he]
  apply Array.ext_getElem?
  intro j
  have hlen : (arr8 ls).length = 8 * ls.length := arr8_length ls
  have hlp : (arr8 (putE ls i r)).length = 8 * ls.length := by rw [arr8_length, putE_length]
  rw [h2 j]
  by_cases hj : j < 8 * ls.length
  · obtain ⟨k, q, hq, rfl⟩ : ∃ k q, q < 8 ∧ j = 8 * k + q := ⟨j / 8, j % 8, by omega, by omega⟩
    have hg := putE_get ls i r k hl
    by_cases hin : 4 * i ≤ k ∧ k < 4 * i + 4
    · rw [if_pos hin] at hg
      have := arr8_get _ _ k q hg hq
      rw [if_pos (by simp [byL, hlen]; omega), show (arr8 (putE ls i r)).toArray[8 * k + q]? = (arr8 (putE ls i r))[8 * k + q]? from List.getElem?_toArray, this]
      have hb := limb_byte r (k - 4 * i) q hq
      rw [show 8 * k + q - 32 * i = 8 * (k - 4 * i) + q by omega]
      have : (byA 32 r).toList = byL 32 r := by simp
      rw [this]
      unfold byL
      rw [List.getElem?_map, List.getElem?_range (by omega)]
      simp only [Option.map_some, bv]
      rw [hb]
    · rw [if_neg hin] at hg
      have hk : k < ls.length := by omega
      rw [List.getElem?_eq_getElem hk] at hg
      have e1 := arr8_get _ _ k q hg hq
      have e2 := arr8_get _ ls k q (List.getElem?_eq_getElem hk) hq
      rw [if_neg (by simp [byL]; omega), show (arr8 (putE ls i r)).toArray[8 * k + q]? = (arr8 (putE ls i r))[8 * k + q]? from List.getElem?_toArray, show (arr8 ls).toArray[8 * k + q]? = (arr8 ls)[8 * k + q]? from List.getElem?_toArray, e1, e2]
  · rw [if_neg (by simp [byL, hlen]; omega), Array.getElem?_eq_none (by simp [hlen]; omega), Array.getElem?_eq_none (by simp [hlp]; omega)]
theorem Blk.there {w : World} {b T i : Nat} {ls : List Nat} (h : Blk w b T ls) (hl : 4 * i + 3 < ls.length) (r : Nat) : w.there b (32 * i) (byA 32 r).size := by
  intro j hj
  rw [byA_size] at hj
  refine ⟨?_, frozen_of_row w b _ _ _ h⟩
  rw [cell_of_row w b _ _ _ _ h]
  have hlen : (arr8 ls).length = 8 * ls.length := arr8_length ls
  simp [hlen]; omega
theorem ElAt.range {w : World} {b o v : Nat} (h : ElAt w b o v) : w.rangeAt b o (byL 32 v) := by
  intro j x hj
  have hlt : j < 32 := by
    have := (List.getElem?_eq_some_iff.1 hj).1
    rwa [byL_length] at this
  have hx : x = bv v j := by
    unfold byL at hj
    rw [List.getElem?_map, List.getElem?_range hlt] at hj
    simpa using hj.symm
  subst hx
  obtain ⟨k, q, hk, hq, rfl⟩ : ∃ k q, k < 4 ∧ q < 8 ∧ j = 8 * k + q := ⟨j / 8, j % 8, by omega, by omega, by omega⟩
  have hb : bv v (8 * k + q) = bv (limb v k) q := by unfold bv; rw [limb_byte v k q hq]
  rw [hb]
  rcases (show k = 0 ∨ k = 1 ∨ k = 2 ∨ k = 3 by omega) with rfl | rfl | rfl | rfl
  · have := h.l0.cell q hq; simpa using this
  · have := h.l1.cell q hq; rw [← this]; congr 2; omega
  · have := h.l2.cell q hq; rw [← this]; congr 2; omega
  · have := h.l3.cell q hq; rw [← this]; congr 2; omega
/-- An element of a block. -/
theorem Blk.at {w : World} {b T i v : Nat} {ls : List Nat} (h : Blk w b T ls) (h0 : ls[4 * i]? = some (limb v 0)) (h1 : ls[4 * i + 1]? = some (limb v 1)) (h2 : ls[4 * i + 2]? = some (limb v 2)) (h3 : ls[4 * i + 3]? = some (limb v 3)) : ElAt w b (32 * i) v :=
  ⟨T, ls, i, h, rfl, h0, h1, h2, h3⟩
/-- The i-th element of a list of numbers is v. -/
def IsE (ls : List Nat) (i v : Nat) : Prop := ls[4 * i]? = some (limb v 0) ∧ ls[4 * i + 1]? = some (limb v 1) ∧ ls[4 * i + 2]? = some (limb v 2) ∧ ls[4 * i + 3]? = some (limb v 3)
theorem IsE.lt {ls : List Nat} {i v : Nat} (h : IsE ls i v) : 4 * i + 3 < ls.length := (List.getElem?_eq_some_iff.1 h.2.2.2).1
theorem IsE.el {w : World} {b T i v : Nat} {ls : List Nat} (h : IsE ls i v) (hb : Blk w b T ls) : ElAt w b (32 * i) v := hb.at h.1 h.2.1 h.2.2.1 h.2.2.2
theorem IsE.put {ls : List Nat} {i r : Nat} (h : 4 * i + 3 < ls.length) : IsE (putE ls i r) i r := by
  unfold IsE
  rw [putE_get ls i r _ h, putE_get ls i r _ h, putE_get ls i r _ h, putE_get ls i r _ h, if_pos (by omega), if_pos (by omega), if_pos (by omega), if_pos (by omega)]
  simp
theorem IsE.other {ls : List Nat} {i j v r : Nat} (h : IsE ls j v) (hl : 4 * i + 3 < ls.length) (hn : i ≠ j) : IsE (putE ls i r) j v := by
  unfold IsE at *
  rw [putE_get ls i r _ hl, putE_get ls i r _ hl, putE_get ls i r _ hl, putE_get ls i r _ hl, if_neg (by omega), if_neg (by omega), if_neg (by omega), if_neg (by omega)]
  exact h
theorem isE_el (v : Nat) : IsE (elL v) 0 v := ⟨rfl, rfl, rfl, rfl⟩
end Go.Proofs.YteehdjkmjncehaaDoor
