
/-
  Elements of 32 bytes in blocks: four numbers of 64 bits each.
-/
import Derived.Test.YteehdjkmjncehaaDoorBits
namespace Go.Proofs.YteehdjkmjncehaaDoor
open Go.RowKit

/-- Number j of 64 bits of a number. -/
def limb (v j : Nat) : Nat := v / 18446744073709551616 ^ j % 18446744073709551616
/-- An element's four numbers laid into a list, as its i-th element. -/
def putE (ls : List Nat) (i r : Nat) : List Nat := (((ls.set (4 * i) (limb r 0)).set (4 * i + 1) (limb r 1)).set (4 * i + 2) (limb r 2)).set (4 * i + 3) (limb r 3)
/-- At an address there lies an element. -/
def ElAt (w : World) (b o v : Nat) : Prop := ∃ T ls i, Blk w b T ls ∧ o = 32 * i ∧ ls[4 * i]? = some (limb v 0) ∧ ls[4 * i + 1]? = some (limb v 1) ∧ ls[4 * i + 2]? = some (limb v 2) ∧ ls[4 * i + 3]? = some (limb v 3)
/-- The outcome of a function that lays an element. -/
def ElR (bz Tz iz : Nat) (zs : List Nat) (R : Nat → Prop) (w : World) (e : Ending) (w' : World) : Prop :=
  ∃ r, r < 2 ^ 256 ∧ R r ∧ e = .returned (.tuple #[]) ∧ Blk w' bz Tz (putE zs iz r) ∧ Only bz w w'

theorem limb_lt (v j : Nat) : limb v j < 18446744073709551616 := Nat.mod_lt _ (by decide)
theorem limb_sum (v : Nat) (h : v < 2 ^ 256) : v = limb v 0 + 18446744073709551616 * limb v 1 + 340282366920938463463374607431768211456 * limb v 2 + 6277101735386680763835789423207666416102355444464034512896 * limb v 3 := by
  unfold limb
  simp only [Nat.reducePow] at *
  omega
theorem limb_of (z0 z1 z2 z3 : Nat) (h0 : z0 < 18446744073709551616) (h1 : z1 < 18446744073709551616) (h2 : z2 < 18446744073709551616) (h3 : z3 < 18446744073709551616) :
    ∃ r, r < 2 ^ 256 ∧ r = z0 + 18446744073709551616 * z1 + 340282366920938463463374607431768211456 * z2 + 6277101735386680763835789423207666416102355444464034512896 * z3 ∧ limb r 0 = z0 ∧ limb r 1 = z1 ∧ limb r 2 = z2 ∧ limb r 3 = z3 := by
  refine ⟨_, ?_, rfl, ?_, ?_, ?_, ?_⟩
  · simp only [Nat.reducePow]; omega
  all_goals unfold limb; simp only [Nat.reducePow]; omega
theorem ElAt.l0 {w : World} {b o v : Nat} (h : ElAt w b o v) : LimbAt w b o (limb v 0) := by
  obtain ⟨T, ls, i, h1, rfl, h2, _⟩ := h; exact ⟨T, ls, 4 * i, h1, h2, by omega⟩
theorem ElAt.l1 {w : World} {b o v : Nat} (h : ElAt w b o v) : LimbAt w b (o + 8) (limb v 1) := by
  obtain ⟨T, ls, i, h1, rfl, _, h2, _⟩ := h; exact ⟨T, ls, 4 * i + 1, h1, h2, by omega⟩
theorem ElAt.l2 {w : World} {b o v : Nat} (h : ElAt w b o v) : LimbAt w b (o + 16) (limb v 2) := by
  obtain ⟨T, ls, i, h1, rfl, _, _, h2, _⟩ := h; exact ⟨T, ls, 4 * i + 2, h1, h2, by omega⟩
theorem ElAt.l3 {w : World} {b o v : Nat} (h : ElAt w b o v) : LimbAt w b (o + 24) (limb v 3) := by
  obtain ⟨T, ls, i, h1, rfl, _, _, _, h2⟩ := h; exact ⟨T, ls, 4 * i + 3, h1, h2, by omega⟩
theorem ElAt.on {w w' : World} {b o v : Nat} (h : ElAt w b o v) (hb : Below w.heap.size w w') : ElAt w' b o v := by
  obtain ⟨T, ls, i, h1, h2⟩ := h; exact ⟨T, ls, i, h1.on hb, h2⟩
theorem ElAt.only {w w' : World} {b c o v : Nat} (h : ElAt w b o v) (ho : Only c w w') (hn : b ≠ c) : ElAt w' b o v := by
  obtain ⟨T, ls, i, h1, h2⟩ := h; exact ⟨T, ls, i, h1.only ho hn, h2⟩
theorem ElAt.drew {w : World} {b o v : Nat} (h : ElAt w b o v) : ElAt w.drew b o v := h
/-- Behind a reading call. -/
theorem Only.read {b : Nat} {w w1 w2 : World} (h : Only b w w1) (hb : Below w1.heap.size w1.drew w2) : Only b w w2 :=
  h.trans ⟨hb.os, hb.tape, hb.output, hb.size, fun k hk _ => hb.block k hk⟩
theorem Only.wrote {b : Nat} {w w1 w2 : World} (h : Only b w w1) (hb : Only b w1.drew w2) : Only b w w2 := h.trans hb.undrew
theorem put64_at {b c o k v T : Nat} {ls : List Nat} {w : World} (hb : Blk w b T ls) (hk : k < ls.length) (hv : v < 18446744073709551616) (ho : o = 8 * k) :
    Calls Tryd.prog 79 #[.agg #[], .slice (some ⟨b, o, none⟩) 8 c, .int .u64 v] w fun e w' => e = .returned (.tuple #[]) ∧ Blk w' b T (ls.set k v) ∧ Only b w w' := by
  subst ho; exact put64_any hb hk hv
theorem len_set {k n v : Nat} {ls : List Nat} (h : n < ls.length) : n < (ls.set k v).length := by rw [List.length_set]; exact h
end Go.Proofs.YteehdjkmjncehaaDoor
