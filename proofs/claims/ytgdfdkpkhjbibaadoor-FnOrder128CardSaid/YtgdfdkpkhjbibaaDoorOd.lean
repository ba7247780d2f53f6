/-
  The order's bytes, and bytes as strings (written by genod.py).
-/
import Derived.Test.YtgdfdkpkhjbibaaDoorVe
import Derived.Laws.BytesArg
namespace Go.Proofs.YtgdfdkpkhjbibaaDoor
open Go.RowKit
theorem Val.strOf {P : Program} {n : Nat} {σ : List (Nat × Value)} {I : World → Prop} {dst : Option Tmp} {ty : TypeId} {pos : String} {af : Array Edge} {gd : Option (Nat × Bool)} {src t e : TypeId} {x : Operand} {b o l c : Nat} (xs : List Int)
    (hx : evS σ x = some (.slice (some ⟨b, o, none⟩) l c)) (hs : P.underlying src = some (.slice e)) (he : P.underlying e = some (.int .u8)) (hd : P.underlying t = some .string) (hl : xs.length = l)
    (hc : ∀ w, I w → ∀ i, i < l → w.cell? ⟨b, o + i, none⟩ = some (.int .u8 (xs.getD i 0))) :
    Val P n σ I ⟨dst, .convert src t x, ty, pos, af, gd⟩ (.string (strOfNums xs)) := .of_run fun a w ha hI => by
  have h1 := ha.eval hx
  have h2 := run_convert_bytes_arg w src e hs he b o l c xs hl (hc w hI) t hd
  unfold execOp
  simp [h1, h2]
theorem Val.eqlStr {P : Program} {n : Nat} {σ : List (Nat × Value)} {I : World → Prop} {dst : Option Tmp} {ty : TypeId} {pos : String} {af : Array Edge} {gd : Option (Nat × Bool)} {t t2 : TypeId} {x y : Operand} {s s' : ByteArray}
    (hx : evS σ x = some (.string s)) (hy : evS σ y = some (.string s')) :
    Val P n σ I ⟨dst, .binOp .eql t x y t2, ty, pos, af, gd⟩ (.bool (s.toList == s'.toList)) := .bin hx hy (by rfl) (fun w => by
  simp only [binOp, Op.stringOp, Sem.run_pure])
theorem row_cells {w : World} {b T : Nat} {cs : Array Value} {xs : List Int} {m : Nat} {fr : Nat × Nat} (h : w.heap[b]? = some (.cells cs T fr)) (hc : ∀ i, i < m → cs[i]? = some (.int .u8 (xs.getD i 0))) : ∀ i, i < m → w.cell? ⟨b, 0 + i, none⟩ = some (.int .u8 (xs.getD i 0)) := fun i hi => by
  rw [Nat.zero_add, cell_of_row w b i cs T fr h]; exact hc i hi
theorem byte0 (n : Nat) {i : Nat} (hi : i < 8) : n % 18446744073709551616 / 256 ^ i % 256 = n / 256 ^ i % 256 := by
  rcases (show i = 0 ∨ i = 1 ∨ i = 2 ∨ i = 3 ∨ i = 4 ∨ i = 5 ∨ i = 6 ∨ i = 7 by omega) with rfl | rfl | rfl | rfl | rfl | rfl | rfl | rfl <;> omega
theorem byte1 (n i : Nat) : n / 18446744073709551616 / 256 ^ i % 256 = n / 256 ^ (8 + i) % 256 := by
  have h8 : (256 : Nat) ^ 8 = 18446744073709551616 := by decide
  rw [Nat.pow_add, h8, Nat.div_div_eq_div_mul]
theorem sh8 {m : Nat} (x : Nat) : (x : Int) / 2 ^ ((8 * m : Nat) : Int).toNat = ((x / 256 ^ m : Nat) : Int) := by
  rw [Int.toNat_natCast]
  have e : (2 : Nat) ^ (8 * m) = 256 ^ m := by rw [Nat.pow_mul]
  rw [← e]; norm_cast
theorem wrapM (x : Nat) : IntKind.u8.wrap (x : Int) = ((x % 256 : Nat) : Int) := by
  rw [IntKind.wrap_u8]; omega
/-- The first k bytes of a number, the others nothing. -/
def bpre (n k : Nat) : Array Value := ((List.range 16).map fun e => if e < k then bv n e else bv 0 e).toArray
theorem bv0 (e : Nat) : bv 0 e = .int .u8 ((0 : Nat) : Int) := by unfold bv; simp
theorem bpre_zero (n : Nat) : bpre n 0 = byA 16 0 := by
  unfold bpre byA byL; congr 1
theorem bpre_all (n : Nat) : bpre n 16 = byA 16 n := by
  unfold bpre byA byL; congr 1
theorem setM {f g : Nat → Value} {m k : Nat} {v : Value} (hv : v = g k) (h : ∀ e, e ≠ k → f e = g e) : (((List.range m).map f).toArray).setIfInBounds k v = ((List.range m).map g).toArray := by
  subst hv
  rw [List.setIfInBounds_toArray]
  congr 1
  apply List.ext_getElem?
  intro e
  rw [List.getElem?_set, List.getElem?_map, List.getElem?_map]
  by_cases he : k = e
  · subst he
    by_cases hl : k < m
    · simp [hl]
    · simp [hl]
  · rw [if_neg he]
    cases hq : (List.range m)[e]? with
    | none => rfl
    | some z =>
      have hz : z = e := by
        have := List.getElem?_eq_some_iff.1 hq
        simpa using this.2.symm
      subst hz
      simp [h z (fun h => he h.symm)]
theorem bpre_step (n k : Nat) {v : Value} (hv : v = .int .u8 ((n / 256 ^ k % 256 : Nat) : Int)) : (bpre n k).setIfInBounds k v = bpre n (k + 1) := setM (by rw [hv, if_pos (by omega)]; rfl) (fun e he => by
  by_cases h : e < k
  · rw [if_pos h, if_pos (by omega)]
  · rw [if_neg h, if_neg (by omega)])
theorem bpre_size (n k : Nat) : (bpre n k).size = 16 := by simp [bpre]
/-- The bytes of a number turned round, the first k of them. -/
def brev (n k : Nat) : Array Value := ((List.range 16).map fun e => if e < k then bv n (15 - e) else bv 0 e).toArray
theorem brev_zero (n : Nat) : brev n 0 = byA 16 0 := by
  unfold brev byA byL; congr 1
theorem brev_step (n k : Nat) : (brev n k).setIfInBounds k (bv n (15 - k)) = brev n (k + 1) := setM (by rw [if_pos (by omega)]) (fun e he => by
  by_cases h : e < k
  · rw [if_pos h, if_pos (by omega)]
  · rw [if_neg h, if_neg (by omega)])
theorem brev_size (n k : Nat) : (brev n k).size = 16 := by simp [brev]

def beN : List Int := [255, 255, 255, 255, 255, 255, 255, 228, 0, 0, 0, 0, 0, 0, 0, 1]
def leN : List Int := [1, 0, 0, 0, 0, 0, 0, 0, 228, 255, 255, 255, 255, 255, 255, 255]
theorem be_le : ((strOfNums beN).toList == (strOfNums leN).toList) = false := by decide +kernel

set_option maxRecDepth 100000 in
theorem bePut0 {b T c : Nat} {w : World} (h0 : w.heap[b]? = some (.cells #[.int .u8 0, .int .u8 0, .int .u8 0, .int .u8 0, .int .u8 0, .int .u8 0, .int .u8 0, .int .u8 0, .int .u8 0, .int .u8 0, .int .u8 0, .int .u8 0, .int .u8 0, .int .u8 0, .int .u8 0, .int .u8 0] T (0, 0))) :
    Calls Tryd.prog 115 #[.agg #[], .slice (some ⟨b, 0, none⟩) 16 c, .int .u64 18446744073709551588] w fun e w' => e = .returned (.tuple #[]) ∧ Hold (fun k => k == b) w [(b, .cells #[.int .u8 255, .int .u8 255, .int .u8 255, .int .u8 255, .int .u8 255, .int .u8 255, .int .u8 255, .int .u8 228, .int .u8 0, .int .u8 0, .int .u8 0, .int .u8 0, .int .u8 0, .int .u8 0, .int .u8 0, .int .u8 0] T (0, 0))] w' := by
  refine calls_H (args := [.agg #[], .slice (some ⟨b, 0, none⟩) 16 c, .int .u64 18446744073709551588]) (fun k => k == b) [(b, .cells #[.int .u8 0, .int .u8 0, .int .u8 0, .int .u8 0, .int .u8 0, .int .u8 0, .int .u8 0, .int .u8 0, .int .u8 0, .int .u8 0, .int .u8 0, .int .u8 0, .int .u8 0, .int .u8 0, .int .u8 0, .int .u8 0] T (0, 0))] Tryd.func115 rfl (m := 48) rfl rfl (hold_one h0) ?_
  refine HC.seq ?_
  refine HC.region ?_
  refine HL.new (New.box rfl) (by decide) ?_
  intro b1 hb1
  refine HL.nil ?_
  refine HQ.next ?_
  refine HC.seq ?_
  refine HC.region ?_
  refine HL.val (Val.move rfl) (by decide) ?_
  refine HL.val (Val.ixSlice (s := 1) (i := 7) 7 rfl rfl Tryd.underlying62 (by kernel_rfl) (by decide) (by omega)) (by decide) ?_
  refine HL.val (Val.load_cell rfl (fun w hw => hw.at (i := 1) rfl) rfl Tryd.underlying5 rfl) (by decide) ?_
  refine HL.nil ?_
  refine HQ.next ?_
  refine HC.seq ?_
  refine HC.region ?_
  refine HL.val (Val.move rfl) (by decide) ?_
  refine HL.val (Val.move rfl) (by decide) ?_
  refine HL.val ((Val.shrI rfl rfl (by decide) (by decide)).as (v := .int .u64 255) (congrArg (Value.int .u64) (by decide +kernel))) (by decide) ?_
  refine HL.val ((Val.convI rfl rfl Tryd.underlying5).as (v := .int .u8 255) (congrArg (Value.int .u8) (by decide +kernel))) (by decide) ?_
  refine HL.val (Val.ixSlice (s := 1) (i := 0) 0 rfl rfl Tryd.underlying62 (by kernel_rfl) (by decide) (by omega)) (by decide) ?_
  refine HL.put 1 rfl (Put.cell (q := 0) rfl rfl (by kernel_rfl) (show 0 < 16 from by decide) rfl) (ownB b) ?_
  simp only [List.set_cons_zero, List.set_cons_succ]
  refine HL.nil ?_
  refine HQ.next ?_
  refine HC.seq ?_
  refine HC.region ?_
  refine HL.val (Val.move rfl) (by decide) ?_
  refine HL.val (Val.move rfl) (by decide) ?_
  refine HL.val ((Val.shrI rfl rfl (by decide) (by decide)).as (v := .int .u64 65535) (congrArg (Value.int .u64) (by decide +kernel))) (by decide) ?_
  refine HL.val ((Val.convI rfl rfl Tryd.underlying5).as (v := .int .u8 255) (congrArg (Value.int .u8) (by decide +kernel))) (by decide) ?_
  refine HL.val (Val.ixSlice (s := 1) (i := 1) 1 rfl rfl Tryd.underlying62 (by kernel_rfl) (by decide) (by omega)) (by decide) ?_
  refine HL.put 1 rfl (Put.cell (q := 1) rfl rfl (by kernel_rfl) (show 1 < 16 from by decide) rfl) (ownB b) ?_
  simp only [List.set_cons_zero, List.set_cons_succ]
  refine HL.nil ?_
  refine HQ.next ?_
  refine HC.seq ?_
  refine HC.region ?_
  refine HL.val (Val.move rfl) (by decide) ?_
  refine HL.val (Val.move rfl) (by decide) ?_
  refine HL.val ((Val.shrI rfl rfl (by decide) (by decide)).as (v := .int .u64 16777215) (congrArg (Value.int .u64) (by decide +kernel))) (by decide) ?_
  refine HL.val ((Val.convI rfl rfl Tryd.underlying5).as (v := .int .u8 255) (congrArg (Value.int .u8) (by decide +kernel))) (by decide) ?_
  refine HL.val (Val.ixSlice (s := 1) (i := 2) 2 rfl rfl Tryd.underlying62 (by kernel_rfl) (by decide) (by omega)) (by decide) ?_
  refine HL.put 1 rfl (Put.cell (q := 2) rfl rfl (by kernel_rfl) (show 2 < 16 from by decide) rfl) (ownB b) ?_
  simp only [List.set_cons_zero, List.set_cons_succ]
  refine HL.nil ?_
  refine HQ.next ?_
  refine HC.seq ?_
  refine HC.region ?_
  refine HL.val (Val.move rfl) (by decide) ?_
  refine HL.val (Val.move rfl) (by decide) ?_
  refine HL.val ((Val.shrI rfl rfl (by decide) (by decide)).as (v := .int .u64 4294967295) (congrArg (Value.int .u64) (by decide +kernel))) (by decide) ?_
  refine HL.val ((Val.convI rfl rfl Tryd.underlying5).as (v := .int .u8 255) (congrArg (Value.int .u8) (by decide +kernel))) (by decide) ?_
  refine HL.val (Val.ixSlice (s := 1) (i := 3) 3 rfl rfl Tryd.underlying62 (by kernel_rfl) (by decide) (by omega)) (by decide) ?_
  refine HL.put 1 rfl (Put.cell (q := 3) rfl rfl (by kernel_rfl) (show 3 < 16 from by decide) rfl) (ownB b) ?_
  simp only [List.set_cons_zero, List.set_cons_succ]
  refine HL.nil ?_
  refine HQ.next ?_
  refine HC.seq ?_
  refine HC.region ?_
  refine HL.val (Val.move rfl) (by decide) ?_
  refine HL.val (Val.move rfl) (by decide) ?_
  refine HL.val ((Val.shrI rfl rfl (by decide) (by decide)).as (v := .int .u64 1099511627775) (congrArg (Value.int .u64) (by decide +kernel))) (by decide) ?_
  refine HL.val ((Val.convI rfl rfl Tryd.underlying5).as (v := .int .u8 255) (congrArg (Value.int .u8) (by decide +kernel))) (by decide) ?_
  refine HL.val (Val.ixSlice (s := 1) (i := 4) 4 rfl rfl Tryd.underlying62 (by kernel_rfl) (by decide) (by omega)) (by decide) ?_
  refine HL.put 1 rfl (Put.cell (q := 4) rfl rfl (by kernel_rfl) (show 4 < 16 from by decide) rfl) (ownB b) ?_
  simp only [List.set_cons_zero, List.set_cons_succ]
  refine HL.nil ?_
  refine HQ.next ?_
  refine HC.seq ?_
  refine HC.region ?_
  refine HL.val (Val.move rfl) (by decide) ?_
  refine HL.val (Val.move rfl) (by decide) ?_
  refine HL.val ((Val.shrI rfl rfl (by decide) (by decide)).as (v := .int .u64 281474976710655) (congrArg (Value.int .u64) (by decide +kernel))) (by decide) ?_
  refine HL.val ((Val.convI rfl rfl Tryd.underlying5).as (v := .int .u8 255) (congrArg (Value.int .u8) (by decide +kernel))) (by decide) ?_
  refine HL.val (Val.ixSlice (s := 1) (i := 5) 5 rfl rfl Tryd.underlying62 (by kernel_rfl) (by decide) (by omega)) (by decide) ?_
  refine HL.put 1 rfl (Put.cell (q := 5) rfl rfl (by kernel_rfl) (show 5 < 16 from by decide) rfl) (ownB b) ?_
  simp only [List.set_cons_zero, List.set_cons_succ]
  refine HL.nil ?_
  refine HQ.next ?_
  refine HC.seq ?_
  refine HC.region ?_
  refine HL.val (Val.move rfl) (by decide) ?_
  refine HL.val (Val.move rfl) (by decide) ?_
  refine HL.val ((Val.shrI rfl rfl (by decide) (by decide)).as (v := .int .u64 72057594037927935) (congrArg (Value.int .u64) (by decide +kernel))) (by decide) ?_
  refine HL.val ((Val.convI rfl rfl Tryd.underlying5).as (v := .int .u8 255) (congrArg (Value.int .u8) (by decide +kernel))) (by decide) ?_
  refine HL.val (Val.ixSlice (s := 1) (i := 6) 6 rfl rfl Tryd.underlying62 (by kernel_rfl) (by decide) (by omega)) (by decide) ?_
  refine HL.put 1 rfl (Put.cell (q := 6) rfl rfl (by kernel_rfl) (show 6 < 16 from by decide) rfl) (ownB b) ?_
  simp only [List.set_cons_zero, List.set_cons_succ]
  refine HL.nil ?_
  refine HQ.next ?_
  refine HC.region ?_
  refine HL.val (Val.move rfl) (by decide) ?_
  refine HL.val (Val.move rfl) (by decide) ?_
  refine HL.val ((Val.convI rfl rfl Tryd.underlying5).as (v := .int .u8 228) (congrArg (Value.int .u8) (by decide +kernel))) (by decide) ?_
  refine HL.val (Val.ixSlice (s := 1) (i := 7) 7 rfl rfl Tryd.underlying62 (by kernel_rfl) (by decide) (by omega)) (by decide) ?_
  refine HL.put 1 rfl (Put.cell (q := 7) rfl rfl (by kernel_rfl) (show 7 < 16 from by decide) rfl) (ownB b) ?_
  simp only [List.set_cons_zero, List.set_cons_succ]
  refine HL.nil ?_
  exact HQ.end0 rfl (fun w hw => ⟨rfl, hw.pick [1] (by simp)⟩)

set_option maxRecDepth 100000 in
theorem bePut1 {b T c : Nat} {w : World} (h0 : w.heap[b]? = some (.cells #[.int .u8 255, .int .u8 255, .int .u8 255, .int .u8 255, .int .u8 255, .int .u8 255, .int .u8 255, .int .u8 228, .int .u8 0, .int .u8 0, .int .u8 0, .int .u8 0, .int .u8 0, .int .u8 0, .int .u8 0, .int .u8 0] T (0, 0))) :
    Calls Tryd.prog 115 #[.agg #[], .slice (some ⟨b, 8, none⟩) 8 c, .int .u64 1] w fun e w' => e = .returned (.tuple #[]) ∧ Hold (fun k => k == b) w [(b, .cells #[.int .u8 255, .int .u8 255, .int .u8 255, .int .u8 255, .int .u8 255, .int .u8 255, .int .u8 255, .int .u8 228, .int .u8 0, .int .u8 0, .int .u8 0, .int .u8 0, .int .u8 0, .int .u8 0, .int .u8 0, .int .u8 1] T (0, 0))] w' := by
  refine calls_H (args := [.agg #[], .slice (some ⟨b, 8, none⟩) 8 c, .int .u64 1]) (fun k => k == b) [(b, .cells #[.int .u8 255, .int .u8 255, .int .u8 255, .int .u8 255, .int .u8 255, .int .u8 255, .int .u8 255, .int .u8 228, .int .u8 0, .int .u8 0, .int .u8 0, .int .u8 0, .int .u8 0, .int .u8 0, .int .u8 0, .int .u8 0] T (0, 0))] Tryd.func115 rfl (m := 48) rfl rfl (hold_one h0) ?_
  refine HC.seq ?_
  refine HC.region ?_
  refine HL.new (New.box rfl) (by decide) ?_
  intro b1 hb1
  refine HL.nil ?_
  refine HQ.next ?_
  refine HC.seq ?_
  refine HC.region ?_
  refine HL.val (Val.move rfl) (by decide) ?_
  refine HL.val (Val.ixSlice (s := 1) (i := 7) 15 rfl rfl Tryd.underlying62 (by kernel_rfl) (by decide) (by omega)) (by decide) ?_
  refine HL.val (Val.load_cell rfl (fun w hw => hw.at (i := 1) rfl) rfl Tryd.underlying5 rfl) (by decide) ?_
  refine HL.nil ?_
  refine HQ.next ?_
  refine HC.seq ?_
  refine HC.region ?_
  refine HL.val (Val.move rfl) (by decide) ?_
  refine HL.val (Val.move rfl) (by decide) ?_
  refine HL.val ((Val.shrI rfl rfl (by decide) (by decide)).as (v := .int .u64 0) (congrArg (Value.int .u64) (by decide +kernel))) (by decide) ?_
  refine HL.val ((Val.convI rfl rfl Tryd.underlying5).as (v := .int .u8 0) (congrArg (Value.int .u8) (by decide +kernel))) (by decide) ?_
  refine HL.val (Val.ixSlice (s := 1) (i := 0) 8 rfl rfl Tryd.underlying62 (by kernel_rfl) (by decide) (by omega)) (by decide) ?_
  refine HL.put 1 rfl (Put.cell (q := 8) rfl rfl (by kernel_rfl) (show 8 < 16 from by decide) rfl) (ownB b) ?_
  simp only [List.set_cons_zero, List.set_cons_succ]
  refine HL.nil ?_
  refine HQ.next ?_
  refine HC.seq ?_
  refine HC.region ?_
  refine HL.val (Val.move rfl) (by decide) ?_
  refine HL.val (Val.move rfl) (by decide) ?_
  refine HL.val ((Val.shrI rfl rfl (by decide) (by decide)).as (v := .int .u64 0) (congrArg (Value.int .u64) (by decide +kernel))) (by decide) ?_
  refine HL.val ((Val.convI rfl rfl Tryd.underlying5).as (v := .int .u8 0) (congrArg (Value.int .u8) (by decide +kernel))) (by decide) ?_
  refine HL.val (Val.ixSlice (s := 1) (i := 1) 9 rfl rfl Tryd.underlying62 (by kernel_rfl) (by decide) (by omega)) (by decide) ?_
  refine HL.put 1 rfl (Put.cell (q := 9) rfl rfl (by kernel_rfl) (show 9 < 16 from by decide) rfl) (ownB b) ?_
  simp only [List.set_cons_zero, List.set_cons_succ]
  refine HL.nil ?_
  refine HQ.next ?_
  refine HC.seq ?_
  refine HC.region ?_
  refine HL.val (Val.move rfl) (by decide) ?_
  refine HL.val (Val.move rfl) (by decide) ?_
  refine HL.val ((Val.shrI rfl rfl (by decide) (by decide)).as (v := .int .u64 0) (congrArg (Value.int .u64) (by decide +kernel))) (by decide) ?_
  refine HL.val ((Val.convI rfl rfl Tryd.underlying5).as (v := .int .u8 0) (congrArg (Value.int .u8) (by decide +kernel))) (by decide) ?_
  refine HL.val (Val.ixSlice (s := 1) (i := 2) 10 rfl rfl Tryd.underlying62 (by kernel_rfl) (by decide) (by omega)) (by decide) ?_
  refine HL.put 1 rfl (Put.cell (q := 10) rfl rfl (by kernel_rfl) (show 10 < 16 from by decide) rfl) (ownB b) ?_
  simp only [List.set_cons_zero, List.set_cons_succ]
  refine HL.nil ?_
  refine HQ.next ?_
  refine HC.seq ?_
  refine HC.region ?_
  refine HL.val (Val.move rfl) (by decide) ?_
  refine HL.val (Val.move rfl) (by decide) ?_
  refine HL.val ((Val.shrI rfl rfl (by decide) (by decide)).as (v := .int .u64 0) (congrArg (Value.int .u64) (by decide +kernel))) (by decide) ?_
  refine HL.val ((Val.convI rfl rfl Tryd.underlying5).as (v := .int .u8 0) (congrArg (Value.int .u8) (by decide +kernel))) (by decide) ?_
  refine HL.val (Val.ixSlice (s := 1) (i := 3) 11 rfl rfl Tryd.underlying62 (by kernel_rfl) (by decide) (by omega)) (by decide) ?_
  refine HL.put 1 rfl (Put.cell (q := 11) rfl rfl (by kernel_rfl) (show 11 < 16 from by decide) rfl) (ownB b) ?_
  simp only [List.set_cons_zero, List.set_cons_succ]
  refine HL.nil ?_
  refine HQ.next ?_
  refine HC.seq ?_
  refine HC.region ?_
  refine HL.val (Val.move rfl) (by decide) ?_
  refine HL.val (Val.move rfl) (by decide) ?_
  refine HL.val ((Val.shrI rfl rfl (by decide) (by decide)).as (v := .int .u64 0) (congrArg (Value.int .u64) (by decide +kernel))) (by decide) ?_
  refine HL.val ((Val.convI rfl rfl Tryd.underlying5).as (v := .int .u8 0) (congrArg (Value.int .u8) (by decide +kernel))) (by decide) ?_
  refine HL.val (Val.ixSlice (s := 1) (i := 4) 12 rfl rfl Tryd.underlying62 (by kernel_rfl) (by decide) (by omega)) (by decide) ?_
  refine HL.put 1 rfl (Put.cell (q := 12) rfl rfl (by kernel_rfl) (show 12 < 16 from by decide) rfl) (ownB b) ?_
  simp only [List.set_cons_zero, List.set_cons_succ]
  refine HL.nil ?_
  refine HQ.next ?_
  refine HC.seq ?_
  refine HC.region ?_
  refine HL.val (Val.move rfl) (by decide) ?_
  refine HL.val (Val.move rfl) (by decide) ?_
  refine HL.val ((Val.shrI rfl rfl (by decide) (by decide)).as (v := .int .u64 0) (congrArg (Value.int .u64) (by decide +kernel))) (by decide) ?_
  refine HL.val ((Val.convI rfl rfl Tryd.underlying5).as (v := .int .u8 0) (congrArg (Value.int .u8) (by decide +kernel))) (by decide) ?_
  refine HL.val (Val.ixSlice (s := 1) (i := 5) 13 rfl rfl Tryd.underlying62 (by kernel_rfl) (by decide) (by omega)) (by decide) ?_
  refine HL.put 1 rfl (Put.cell (q := 13) rfl rfl (by kernel_rfl) (show 13 < 16 from by decide) rfl) (ownB b) ?_
  simp only [List.set_cons_zero, List.set_cons_succ]
  refine HL.nil ?_
  refine HQ.next ?_
  refine HC.seq ?_
  refine HC.region ?_
  refine HL.val (Val.move rfl) (by decide) ?_
  refine HL.val (Val.move rfl) (by decide) ?_
  refine HL.val ((Val.shrI rfl rfl (by decide) (by decide)).as (v := .int .u64 0) (congrArg (Value.int .u64) (by decide +kernel))) (by decide) ?_
  refine HL.val ((Val.convI rfl rfl Tryd.underlying5).as (v := .int .u8 0) (congrArg (Value.int .u8) (by decide +kernel))) (by decide) ?_
  refine HL.val (Val.ixSlice (s := 1) (i := 6) 14 rfl rfl Tryd.underlying62 (by kernel_rfl) (by decide) (by omega)) (by decide) ?_
  refine HL.put 1 rfl (Put.cell (q := 14) rfl rfl (by kernel_rfl) (show 14 < 16 from by decide) rfl) (ownB b) ?_
  simp only [List.set_cons_zero, List.set_cons_succ]
  refine HL.nil ?_
  refine HQ.next ?_
  refine HC.region ?_
  refine HL.val (Val.move rfl) (by decide) ?_
  refine HL.val (Val.move rfl) (by decide) ?_
  refine HL.val ((Val.convI rfl rfl Tryd.underlying5).as (v := .int .u8 1) (congrArg (Value.int .u8) (by decide +kernel))) (by decide) ?_
  refine HL.val (Val.ixSlice (s := 1) (i := 7) 15 rfl rfl Tryd.underlying62 (by kernel_rfl) (by decide) (by omega)) (by decide) ?_
  refine HL.put 1 rfl (Put.cell (q := 15) rfl rfl (by kernel_rfl) (show 15 < 16 from by decide) rfl) (ownB b) ?_
  simp only [List.set_cons_zero, List.set_cons_succ]
  refine HL.nil ?_
  exact HQ.end0 rfl (fun w hw => ⟨rfl, hw.pick [1] (by simp)⟩)

set_option maxRecDepth 100000 in
theorem alq30 (w : World) : (Instr.alloc 30 true (.tuple #[])).run Tryd.prog w = .ok (.pointer (some ⟨w.heap.size, 0, none⟩)) (w.alloc (.cells #[.int .u8 0, .int .u8 0, .int .u8 0, .int .u8 0, .int .u8 0, .int .u8 0, .int .u8 0, .int .u8 0, .int .u8 0, .int .u8 0, .int .u8 0, .int .u8 0, .int .u8 0, .int .u8 0, .int .u8 0, .int .u8 0] 30 (0, 0))) := rfl

set_option maxRecDepth 100000 in
theorem order_any {w : World} : Calls Tryd.prog 88 #[.agg (rawC 0)] w fun e w' => ∃ r : Fam, True ∧ e = .returned (.slice (some ⟨r.1, 0, none⟩) 16 16) ∧ Below w.heap.size w w' ∧ w.heap.size ≤ r.1 ∧ w'.heap[r.1]? = some (.cells #[.int .u8 255, .int .u8 255, .int .u8 255, .int .u8 255, .int .u8 255, .int .u8 255, .int .u8 255, .int .u8 228, .int .u8 0, .int .u8 0, .int .u8 0, .int .u8 0, .int .u8 0, .int .u8 0, .int .u8 0, .int .u8 1] 30 (0, 0)) := by
  refine calls_H (args := [.agg (rawC 0)]) (noD) [] Tryd.func88 rfl (m := 11) rfl rfl (hold_nil _ _) ?_
  refine HC.seq ?_
  refine HC.region ?_
  refine HL.new (New.box rfl) (by decide) ?_
  intro b1 hb1
  refine HL.val (Val.assign rfl) (by decide) ?_
  refine HL.nil ?_
  refine HQ.next ?_
  refine HC.seq ?_
  refine HC.region ?_
  refine HL.new (New.alloc alq30) (by decide) ?_
  intro b2 hb2
  refine HL.nil ?_
  refine HQ.next ?_
  refine HC.seq ?_
  refine HC.draw0 2 (by kernel_rfl) (by kernel_rfl) ?_
  simp only [List.take, List.drop]
  refine HV.val ((Val.load0 rfl Tryd.underlying119 rfl (by kernel_rfl))) (by decide) ?_
  refine HV.val (Val.sliceFrom (s := 1) (l := 0) 0 rfl rfl Tryd.underlying30 (by kernel_rfl) (by decide) (by omega)) (by decide) ?_
  refine HV.tail0 ?_
  refine HL.callD en115 rfl (fun w hw => lift_one hw (i := 0) rfl (.inl hb2) (bePut0 (hw.at (i := 0) rfl))) (by decide) ?_
  simp only [List.set_cons_zero]
  refine HL.nil ?_
  refine HQ.next ?_
  refine HC.seq ?_
  refine HC.draw0 2 (by kernel_rfl) (by kernel_rfl) ?_
  simp only [List.take, List.drop]
  refine HV.val ((Val.load0 rfl Tryd.underlying119 rfl (by kernel_rfl))) (by decide) ?_
  refine HV.val (Val.sliceFrom (s := 1) (l := 8) 8 rfl rfl Tryd.underlying30 (by kernel_rfl) (by decide) (by omega)) (by decide) ?_
  refine HV.tail0 ?_
  refine HL.callD en115 rfl (fun w hw => lift_one hw (i := 0) rfl (.inl hb2) (bePut1 (hw.at (i := 0) rfl))) (by decide) ?_
  simp only [List.set_cons_zero]
  refine HL.nil ?_
  refine HQ.next ?_
  refine HC.seq ?_
  refine HC.region ?_
  refine HL.val (Val.sliceAll (s := 1) rfl Tryd.underlying30 (by kernel_rfl)) (by decide) ?_
  refine HL.val (Val.assign rfl) (by decide) ?_
  refine HL.nil ?_
  refine HQ.next ?_
  refine HC.ret ?_
  refine HQ.ret1 rfl rfl (fun w hw => ?_)
  exact ⟨(b2, 0, #[]), trivial, rfl, hw.sn.pure, hb2, hw.at (i := 0) rfl⟩

set_option maxRecDepth 100000 in
theorem iorder_any {w : World} : Calls Tryd.prog 47 #[] w fun e w' => ∃ r : Fam, True ∧ e = .returned (.slice (some ⟨r.1, 0, none⟩) 16 16) ∧ Below w.heap.size w w' ∧ w.heap.size ≤ r.1 ∧ w'.heap[r.1]? = some (.cells #[.int .u8 255, .int .u8 255, .int .u8 255, .int .u8 255, .int .u8 255, .int .u8 255, .int .u8 255, .int .u8 228, .int .u8 0, .int .u8 0, .int .u8 0, .int .u8 0, .int .u8 0, .int .u8 0, .int .u8 0, .int .u8 1] 30 (0, 0)) := by
  refine calls_H (args := []) (noD) [] Tryd.func47 rfl (m := 4) rfl rfl (hold_nil _ _) ?_
  refine HC.seq ?_
  refine HC.region ?_
  refine HL.val (Val.assign rfl) (by decide) ?_
  refine HL.nil ?_
  refine HQ.next ?_
  refine HC.seq ?_
  refine HC.region ?_
  refine HL.new (New.alloc al81) (by decide) ?_
  intro b1 hb1
  refine HL.nil ?_
  refine HQ.next ?_
  refine HC.seq ?_
  refine HC.region ?_
  refine HL.val (Val.load_row rfl (fun w hw => hw.at (i := 0) rfl) Tryd.underlying81 rfl (by kernel_rfl)) (by decide) ?_
  refine HL.fam (FamV.call (R := fun r => True) (ob := fun r => .cells #[.int .u8 255, .int .u8 255, .int .u8 255, .int .u8 255, .int .u8 255, .int .u8 255, .int .u8 255, .int .u8 228, .int .u8 0, .int .u8 0, .int .u8 0, .int .u8 0, .int .u8 0, .int .u8 0, .int .u8 0, .int .u8 1] 30 (0, 0)) (pv := fun r => .slice (some ⟨r.1, 0, none⟩) 16 16) en88 (fun w hw => order_any) rfl) (fun _ h => by cases h) (by decide) ?_
  intro b2 c2 q2 r2 hb2
  dsimp only
  refine HL.val (Val.assign rfl) (by decide) ?_
  refine HL.nil ?_
  refine HQ.next ?_
  refine HC.ret ?_
  refine HQ.ret1 rfl rfl (fun w hw => ?_)
  exact ⟨(b2, 0, #[]), trivial, rfl, hw.sn.pure, hb2, hw.at (i := 0) rfl⟩

set_option maxRecDepth 100000 in
theorem lb_p {x : Nat} (_hx : x < 2 ^ 128) : Pure Tryd.prog 46 #[.agg (wA x)] (.agg (byA 16 x)) := by
  intro w
  refine calls_H (args := [.agg (wA x)]) (noD) [] Tryd.func46 rfl (m := 22) rfl rfl (hold_nil _ _) ?_
  refine HC.seq ?_
  refine HC.region ?_
  refine HL.new (New.box rfl) (by decide) ?_
  intro b1 hb1
  refine HL.new (New.alloc al30) (by decide) ?_
  intro b2 hb2
  refine HL.nil ?_
  refine HQ.next ?_
  refine HC.seq ?_
  refine HC.region ?_
  refine HL.val (Val.build rfl built_by0) (by decide) ?_
  refine HL.new (New.alloc al30) (by decide) ?_
  intro b3 hb3
  refine HL.put 0 rfl (Put.row rfl rfl (by kernel_rfl) (szB _ _ _) (oneB _ _)) (.inl hb3) ?_
  simp only [List.set_cons_zero]
  refine HL.nil ?_
  refine HQ.next ?_
  refine HC.seq ?_
  refine HC.seq ?_
  refine HC.region ?_
  refine HL.val (Val.move rfl) (by decide) ?_
  refine HL.nil ?_
  refine HQ.next ?_
  refine HC.block ?_
  refine HC.loop (ι := {p : Nat // p ≤ 16}) (fun p => 16 - p.1) (fun p => [(1, .pointer (some ⟨b1, 0, none⟩)), (2, .pointer (some ⟨b2, 0, none⟩)), (3, .pointer (some ⟨b3, 0, none⟩)), (6, .int .i64 (p.1 : Int))]) (fun p => [(b3, .cells (bpre x p.1) 30 (0, 0)), (b1, .cells (wA x) 25 (0, 0)), (b2, .cells (byA 16 0) 30 (0, 0))]) ⟨0, Nat.zero_le _⟩ (fun ac wc ha hw => ⟨ha.subS ⟨rfl, rfl, rfl, rfl, trivial⟩, by have h := hw.pick [0, 2, 1] (by simp); dsimp only; rw [bpre_zero]; exact h⟩) ?_
  rintro ⟨k, hk⟩
  dsimp only
  rcases (show k < 8 ∨ (∃ m, k = 8 + m ∧ m < 8) ∨ k = 16 from by rcases Nat.lt_or_ge k 8 with h | h; exact .inl h; exact .inr (by rcases Nat.lt_or_ge k 16 with h2 | h2; exact .inl ⟨k - 8, by omega, by omega⟩; exact .inr (by omega))) with hm | ⟨m, rfl, hm⟩ | rfl
  · refine HC.seq ?_
    refine HC.region ?_
    refine HL.val ((Val.lss rfl rfl).as (congrArg Value.bool ((lssN k 16).trans (decide_eq_true (show k < 16 by omega))))) (by decide) ?_
    refine HL.nil ?_
    refine HQ.next ?_
    refine HC.seq ?_
    refine HC.yes rfl ?_
    refine HC.skip ?_
    refine HQ.next ?_
    refine HC.seq ?_
    refine HC.block ?_
    refine HC.seq ?_
    refine HC.region ?_
    refine HL.val (Val.move rfl) (by decide) ?_
    refine HL.val (Val.assign rfl) (by decide) ?_
    refine HL.nil ?_
    refine HQ.next ?_
    refine HC.region ?_
    refine HL.val (Val.move rfl) (by decide) ?_
    refine HL.val (Val.move rfl) (by decide) ?_
    refine HL.val ((Val.quoN k 8 rfl rfl rfl (by decide) (by omega)).as (v := .int .i64 ((0 : Nat) : Int)) (congrArg (fun z : Nat => Value.int .i64 (z : Int)) (show k / 8 = 0 by omega))) (by decide) ?_
    refine HL.val (Val.ixAddrQ (0) (i := 0) (m := 2) (s := 1) (e := 23) rfl rfl Tryd.underlying25 (by kernel_rfl) (by decide) (by omega)) (by decide) ?_
    refine HL.val (Val.load_cell rfl (fun w hw => hw.at (i := 1) rfl) rfl Tryd.underlying23 rfl) (by decide) ?_
    refine HL.val (Val.move rfl) (by decide) ?_
    refine HL.val ((Val.remN k 8 rfl rfl rfl (by decide)).as (v := .int .i64 ((k : Nat) : Int)) (congrArg (fun z : Nat => Value.int .i64 (z : Int)) (show k % 8 = k by omega))) (by decide) ?_
    refine HL.val ((Val.mulI rfl rfl).as (congrArg (Value.int .i64) (wrap8 hm))) (by decide) ?_
    refine HL.val ((Val.shrI rfl rfl (Int.natCast_nonneg _) (show ((8 * k : Nat) : Int) ≤ 64 by omega)).as (congrArg (Value.int .u64) (sh8 (m := k) (x % 18446744073709551616)))) (by decide) ?_
    refine HL.val ((Val.convI rfl rfl Tryd.underlying5).as (congrArg (Value.int .u8) (wrapM ((x % 18446744073709551616) / 256 ^ k)))) (by decide) ?_
    refine HL.val (Val.ixAddrQ (k) (i := k) (m := 16) (s := 1) (e := 5) rfl rfl Tryd.underlying30 (by kernel_rfl) (by omega) (by omega)) (by decide) ?_
    refine HL.put 0 rfl (Put.cell rfl rfl (by kernel_rfl) (by rw [bpre_size]; omega) rfl) (.inl hb3) ?_
    simp only [List.set_cons_zero]
    refine HL.nil ?_
    refine HQ.blockNormal ?_
    refine HQ.next ?_
    refine HC.region ?_
    refine HL.val ((Val.addI rfl rfl).as (congrArg (Value.int .i64) (wrap1 k (by omega)))) (by decide) ?_
    refine HL.val (Val.move rfl) (by decide) ?_
    refine HL.nil ?_
    exact ⟨fun ac wc ha hw => ⟨⟨k + 1, by omega⟩, by dsimp only; omega, ha.subS ⟨rfl, rfl, rfl, rfl, trivial⟩, by have h := hw.pick [0, 1, 2] (by simp); simp only [List.filterMap_cons, List.filterMap_nil, List.getElem?_cons_zero, List.getElem?_cons_succ] at h; rw [bpre_step x k (by rw [byte0 x hm])] at h; exact h⟩⟩
  · refine HC.seq ?_
    refine HC.region ?_
    refine HL.val ((Val.lss rfl rfl).as (congrArg Value.bool ((lssN (8 + m) 16).trans (decide_eq_true (show (8 + m) < 16 by omega))))) (by decide) ?_
    refine HL.nil ?_
    refine HQ.next ?_
    refine HC.seq ?_
    refine HC.yes rfl ?_
    refine HC.skip ?_
    refine HQ.next ?_
    refine HC.seq ?_
    refine HC.block ?_
    refine HC.seq ?_
    refine HC.region ?_
    refine HL.val (Val.move rfl) (by decide) ?_
    refine HL.val (Val.assign rfl) (by decide) ?_
    refine HL.nil ?_
    refine HQ.next ?_
    refine HC.region ?_
    refine HL.val (Val.move rfl) (by decide) ?_
    refine HL.val (Val.move rfl) (by decide) ?_
    refine HL.val ((Val.quoN (8 + m) 8 rfl rfl rfl (by decide) (by omega)).as (v := .int .i64 ((1 : Nat) : Int)) (congrArg (fun z : Nat => Value.int .i64 (z : Int)) (show (8 + m) / 8 = 1 by omega))) (by decide) ?_
    refine HL.val (Val.ixAddrQ (1) (i := 1) (m := 2) (s := 1) (e := 23) rfl rfl Tryd.underlying25 (by kernel_rfl) (by decide) (by omega)) (by decide) ?_
    refine HL.val (Val.load_cell rfl (fun w hw => hw.at (i := 1) rfl) rfl Tryd.underlying23 rfl) (by decide) ?_
    refine HL.val (Val.move rfl) (by decide) ?_
    refine HL.val ((Val.remN (8 + m) 8 rfl rfl rfl (by decide)).as (v := .int .i64 ((m : Nat) : Int)) (congrArg (fun z : Nat => Value.int .i64 (z : Int)) (show (8 + m) % 8 = m by omega))) (by decide) ?_
    refine HL.val ((Val.mulI rfl rfl).as (congrArg (Value.int .i64) (wrap8 hm))) (by decide) ?_
    refine HL.val ((Val.shrI rfl rfl (Int.natCast_nonneg _) (show ((8 * m : Nat) : Int) ≤ 64 by omega)).as (congrArg (Value.int .u64) (sh8 (m := m) (x / 18446744073709551616)))) (by decide) ?_
    refine HL.val ((Val.convI rfl rfl Tryd.underlying5).as (congrArg (Value.int .u8) (wrapM ((x / 18446744073709551616) / 256 ^ m)))) (by decide) ?_
    refine HL.val (Val.ixAddrQ ((8 + m)) (i := (8 + m)) (m := 16) (s := 1) (e := 5) rfl rfl Tryd.underlying30 (by kernel_rfl) (by omega) (by omega)) (by decide) ?_
    refine HL.put 0 rfl (Put.cell rfl rfl (by kernel_rfl) (by rw [bpre_size]; omega) rfl) (.inl hb3) ?_
    simp only [List.set_cons_zero]
    refine HL.nil ?_
    refine HQ.blockNormal ?_
    refine HQ.next ?_
    refine HC.region ?_
    refine HL.val ((Val.addI rfl rfl).as (congrArg (Value.int .i64) (wrap1 (8 + m) (by omega)))) (by decide) ?_
    refine HL.val (Val.move rfl) (by decide) ?_
    refine HL.nil ?_
    exact ⟨fun ac wc ha hw => ⟨⟨(8 + m) + 1, by omega⟩, by dsimp only; omega, ha.subS ⟨rfl, rfl, rfl, rfl, trivial⟩, by have h := hw.pick [0, 1, 2] (by simp); simp only [List.filterMap_cons, List.filterMap_nil, List.getElem?_cons_zero, List.getElem?_cons_succ] at h; rw [bpre_step x (8 + m) (by rw [byte1 x m])] at h; exact h⟩⟩
  · refine HC.seq ?_
    refine HC.region ?_
    refine HL.val ((Val.lss rfl rfl).as (congrArg Value.bool ((lssN 16 16).trans (decide_eq_false (Nat.lt_irrefl 16))))) (by decide) ?_
    refine HL.nil ?_
    refine HQ.next ?_
    refine HC.seq ?_
    refine HC.no rfl ?_
    refine HC.exit ?_
    refine HQ.thenExit ?_
    refine HQ.thenExit ?_
    refine HQ.blockExit ?_
    refine HQ.next ?_
    refine HC.seq ?_
    refine HC.region ?_
    refine HL.val (Val.load_row rfl (fun w hw => by have h := hw.at (i := 0) rfl; rw [bpre_all] at h; exact h) Tryd.underlying30 rfl (by kernel_rfl)) (by decide) ?_
    refine HL.put 2 rfl (Put.row rfl rfl (by kernel_rfl) (szB _ _ _) (oneB _ _)) (.inl hb2) ?_
    simp only [List.set_cons_zero, List.set_cons_succ]
    refine HL.nil ?_
    refine HQ.next ?_
    refine HC.ret ?_
    exact HQ.retc 2 rfl rfl rfl Tryd.underlying30 rfl (by kernel_rfl) (pure_end rfl)
end Go.Proofs.YtgdfdkpkhjbibaaDoor
