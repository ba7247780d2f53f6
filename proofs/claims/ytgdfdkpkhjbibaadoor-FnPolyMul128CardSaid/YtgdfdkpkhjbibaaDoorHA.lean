/-
  The symbolic walk over this program: its functions, and math/bits' carries (written by genha.py).
-/
import Derived.Test.YtgdfdkpkhjbibaaDoorH3
import Derived.Test.YtgdfdkpkhjbibaaDoorBits
namespace Go.Proofs.YtgdfdkpkhjbibaaDoor
open Go.RowKit
section
variable {P : Program} {n : Nat} {σ : List (Nat × Value)} {η : List (Nat × Obj)} {I : World → Prop} {dst : Option Tmp} {ty : TypeId} {pos : String} {af : Array Edge} {gd : Option (Nat × Bool)} {xs : Array Operand} {ats : Array TypeId} {v : Value}
/-- A call that the model answers by itself. -/
theorem Val.callV {f : FuncId} {args : List Value} (he : ∀ w, (callFunc f args.toArray).run P w = .ok (.value v) w) (hx : xs.toList.mapM (evS σ) = some args) :
    Val P n σ I ⟨dst, .call { callee := .value (.func f), args := xs, argTypes := ats }, ty, pos, af, gd⟩ v := .of_run fun a w ha _ => by
  have hm : xs.map a.eval = args.toArray := by
    apply Array.toList_inj.1
    rw [Array.toList_map]; exact mapM_ev1 ha _ _ hx
  have e : execOp a.eval ⟨dst, .call { callee := .value (.func f), args := xs, argTypes := ats }, ty, pos, af, gd⟩ = callFunc f (#[] ++ xs.map a.eval ++ #[]) := rfl
  rw [e, hm]
  simp only [Array.empty_append, Array.append_empty]
  exact he w
/-- Nothing is read of a variable without cells. -/
theorem Val.load0 {t : TypeId} {x : Operand} {ad : Addr} {d : TypeDesc} (hx : evS σ x = some (.pointer (some ad))) (hu : P.underlying t = some d) (hd : d.isRow = true) (hi : (P.info? t).map (·.size) = some 0) : Val P n σ I ⟨dst, .load t x, ty, pos, af, gd⟩ (.agg #[]) :=
  .run1 (fun u => Instr.loadAt t u) (fun _ => rfl) hx (fun w _ => by
    have hl : (loadCells ad 0).run P w = .ok #[] w := by simpa using run_loadCells_list (P := P) w ad [] (fun j v hv => by simp at hv)
    cases hq : P.info? t with
    | none => simp [hq] at hi
    | some i =>
      have hs : i.size = 0 := by simpa [hq] using hi
      have hagg : (isAgg t).run P w = .ok true w := by
        unfold isAgg
        rw [Sem.run_bind, run_underlying hu w]
        cases d <;> simp_all
      simp [Instr.loadAt, Instr.sureAddr, loadVar, Sem.run_bind, hagg, sizeOf, typeInfo, hq, hs, hl])
/-- The same cells as at the beginning. -/
theorem Sn.cell {D : Nat → Bool} {w0 w : World} (h : Sn D w0 w) {b o : Nat} {u : Value} (hc : w0.cell? ⟨b, o, none⟩ = some u) (hd : D b = false) : w.cell? ⟨b, o, none⟩ = some u := by
  have hb := World.block_lt_of_cell? w0 ⟨b, o, none⟩ hc
  have := h.block b hb hd
  simp only [World.cell?] at hc ⊢
  rw [this]; exact hc
/-- One cell, known by itself. -/
theorem Val.load_one {t : TypeId} {x : Operand} {ad : Addr} {d : TypeDesc} (hx : evS σ x = some (.pointer (some ad))) (hI : ∀ w, I w → w.cell? ad = some v) (hu : P.underlying t = some d) (hd : d.isRow = false) : Val P n σ I ⟨dst, .load t x, ty, pos, af, gd⟩ v :=
  .run1 (fun u => Instr.loadAt t u) (fun _ => rfl) hx (fun w hw => by
    have hagg : (isAgg t).run P w = .ok false w := by
      unfold isAgg
      rw [Sem.run_bind, run_underlying hu w]
      cases d <;> simp_all
    simp [Instr.loadAt, Instr.sureAddr, loadVar, Sem.run_bind, hagg, hI w hw])
/-- A row, its cells known one by one. -/
theorem Val.load_cells {t : TypeId} {x : Operand} {b o : Nat} {d : TypeDesc} (cs : Array Value) (hx : evS σ x = some (.pointer (some ⟨b, o, none⟩))) (hI : ∀ w, I w → ∀ j, j < cs.size → w.cell? ⟨b, o + j, none⟩ = cs[j]?) (hu : P.underlying t = some d) (hd : d.isRow = true) (hi : (P.info? t).map (·.size) = some cs.size) :
    Val P n σ I ⟨dst, .load t x, ty, pos, af, gd⟩ (.agg cs) :=
  .run1 (fun u => Instr.loadAt t u) (fun _ => rfl) hx (fun w hw => by
    have hr : w.rangeAt b o cs.toList := fun j v hj => by
      have hl : j < cs.size := by simpa using (List.getElem?_eq_some_iff.1 hj).1
      rw [hI w hw j hl]; simpa using hj
    have := run_loadAt_mid (P := P) w b o t cs.toList d hr hu hd (by simpa using hi)
    simpa using this)
theorem ix0 (b s : Nat) : Value.pointer (some ⟨b, 0 + 0 * s, none⟩) = .pointer (some ⟨b, 0, none⟩) := by rw [Nat.zero_mul]
theorem Hold.sn' {D : Nat → Bool} {w0 w : World} (h : Hold D w0 η w) : Sn D w0 w := h.sn
/-- A call by a contract on blocks, its answer and its blocks said. -/
theorem HL.callD {ops : Array Oper} {Q : Exit → Act → World → Prop} {D : Nat → Bool} {w0 : World} {rest : List Oper} {d : Nat} {f : FuncId} {args : List Value} {η' : List (Nat × Obj)} (he : ∀ args w, (callFunc f args).run P w = .ok (.enter f args) w) (hx : xs.toList.mapM (evS σ) = some args)
    (hc : ∀ w, Hold D w0 η w → Calls P f args.toArray w fun e w' => e = .returned v ∧ Hold D w0 η' w') (hd : d < n) (h : HL P ops Q D w0 n rest ((d, v) :: σ) η') : HL P ops Q D w0 n (⟨some d, .call { callee := .value (.func f), args := xs, argTypes := ats }, ty, pos, af, none⟩ :: rest) σ η :=
  HL.call (α := Unit) (R := fun _ => True) (v := fun _ => v) (η' := fun _ => η') he hx (fun w hw => (hc w hw).mono fun _ _ hh => ⟨(), trivial, hh⟩) hd fun _ _ => h
/-- A callee's blocks in its caller's lists: it may turn one. -/
theorem lift_one {D : Nat → Bool} {w0 w : World} {f : FuncId} {args : Array Value} {i b : Nat} {ob ob' : Obj} (hw : Hold D w0 η w) (hi : η[i]? = some (b, ob)) (hD : w0.heap.size ≤ b ∨ D b = true)
    (hc : Calls P f args w fun e w' => e = .returned v ∧ Hold (fun k => k == b) w [(b, ob')] w') : Calls P f args w fun e w' => e = .returned v ∧ Hold D w0 (η.set i (b, ob')) w' :=
  hc.mono fun _ _ hh => ⟨hh.1, hw.lift1 hi hD hh.2 (hh.2.at (i := 0) rfl)⟩
end
/-- A sum's lower bits and its carry. -/
def addS (x y c : Nat) : Nat := (x + y + c) % 18446744073709551616
def addD (x y c : Nat) : Nat := (x + y + c) / 18446744073709551616
/-- A difference's bits and its borrow. -/
def subS (x y c : Nat) : Nat := (x + 18446744073709551616 - y - c) % 18446744073709551616
def subD (x y c : Nat) : Nat := if x < y + c then 1 else 0
theorem addE {x y c : Nat} (hx : x < 18446744073709551616) (hy : y < 18446744073709551616) (hc : c ≤ 1) : AddE x y c (addS x y c) (addD x y c) := by unfold addS addD; exact ⟨by omega, by omega, by omega⟩
theorem subE {x y c : Nat} (hx : x < 18446744073709551616) (hy : y < 18446744073709551616) (hc : c ≤ 1) : SubE x y c (subS x y c) (subD x y c) := by
  unfold subS subD
  by_cases h : x < y + c
  · rw [if_pos h]; exact ⟨by omega, by omega, by omega⟩
  · rw [if_neg h]; exact ⟨by omega, by omega, by omega⟩
theorem mulE {x y : Nat} (hx : x < 18446744073709551616) (hy : y < 18446744073709551616) : MulE x y (x * y / 18446744073709551616) (x * y % 18446744073709551616) := by
  have h1 : x * y ≤ 18446744073709551615 * 18446744073709551615 := Nat.mul_le_mul (by omega) (by omega)
  exact ⟨by omega, Nat.mod_lt _ (by omega), by omega⟩
theorem addV {x y c : Nat} (hx : x < 18446744073709551616) (hy : y < 18446744073709551616) (hc : c ≤ 1) (w : World) : (callFunc 127 [.int .u64 (x : Int), .int .u64 (y : Int), .int .u64 (c : Int)].toArray).run Tryd.prog w = .ok (.value (.tuple #[.int .u64 (addS x y c : Nat), .int .u64 (addD x y c : Nat)])) w := by
  obtain ⟨s, d, e, h⟩ := add64_run x y c hc hx hy w
  have e' := addE hx hy hc
  obtain ⟨h1, h2, h3⟩ := e
  obtain ⟨k1, k2, k3⟩ := e'
  rw [show [Value.int .u64 (x : Int), .int .u64 (y : Int), .int .u64 (c : Int)].toArray = #[.int .u64 (x : Int), .int .u64 (y : Int), .int .u64 (c : Int)] from rfl, h, show addS x y c = s by omega, show addD x y c = d by omega]
theorem subV {x y c : Nat} (hx : x < 18446744073709551616) (hy : y < 18446744073709551616) (hc : c ≤ 1) (w : World) : (callFunc 128 [.int .u64 (x : Int), .int .u64 (y : Int), .int .u64 (c : Int)].toArray).run Tryd.prog w = .ok (.value (.tuple #[.int .u64 (subS x y c : Nat), .int .u64 (subD x y c : Nat)])) w := by
  obtain ⟨s, d, e, h⟩ := sub64_run x y c hc hx hy w
  have e' := subE hx hy hc
  obtain ⟨h1, h2, h3⟩ := e
  obtain ⟨k1, k2, k3⟩ := e'
  rw [show [Value.int .u64 (x : Int), .int .u64 (y : Int), .int .u64 (c : Int)].toArray = #[.int .u64 (x : Int), .int .u64 (y : Int), .int .u64 (c : Int)] from rfl, h, show subS x y c = s by omega, show subD x y c = d by omega]
theorem addVI {X Y C : Int} (x y c : Nat) (hX : X = x) (hY : Y = y) (hC : C = c) (hx : x < 18446744073709551616) (hy : y < 18446744073709551616) (hc : c ≤ 1) (w : World) : (callFunc 127 [.int .u64 X, .int .u64 Y, .int .u64 C].toArray).run Tryd.prog w = .ok (.value (.tuple #[.int .u64 (addS x y c : Nat), .int .u64 (addD x y c : Nat)])) w := by
  subst hX hY hC; exact addV hx hy hc w
theorem subVI {X Y C : Int} (x y c : Nat) (hX : X = x) (hY : Y = y) (hC : C = c) (hx : x < 18446744073709551616) (hy : y < 18446744073709551616) (hc : c ≤ 1) (w : World) : (callFunc 128 [.int .u64 X, .int .u64 Y, .int .u64 C].toArray).run Tryd.prog w = .ok (.value (.tuple #[.int .u64 (subS x y c : Nat), .int .u64 (subD x y c : Nat)])) w := by
  subst hX hY hC; exact subV hx hy hc w
theorem mulV {x y : Nat} (hx : x < 18446744073709551616) (hy : y < 18446744073709551616) : Pure Tryd.prog 130 #[.int .u64 (x : Int), .int .u64 (y : Int)] (.tuple #[.int .u64 ((x * y / 18446744073709551616 : Nat) : Int), .int .u64 ((x * y % 18446744073709551616 : Nat) : Int)]) := fun w =>
  (mul64_walk x y hx hy w).mono fun _ _ ⟨he, hw⟩ => ⟨he, hw ▸ Below.refl _ _⟩
theorem mulVI {X Y : Int} (x y : Nat) (hX : X = x) (hY : Y = y) (hx : x < 18446744073709551616) (hy : y < 18446744073709551616) : Pure Tryd.prog 130 #[.int .u64 X, .int .u64 Y] (.tuple #[.int .u64 ((x * y / 18446744073709551616 : Nat) : Int), .int .u64 ((x * y % 18446744073709551616 : Nat) : Int)]) := by
  subst hX hY; exact mulV hx hy

theorem en3 : Enters Tryd.prog 3 := enters Tryd.func3 (by kernel_rfl) rfl
theorem en4 : Enters Tryd.prog 4 := enters Tryd.func4 (by kernel_rfl) rfl
theorem en5 : Enters Tryd.prog 5 := enters Tryd.func5 (by kernel_rfl) rfl
theorem en6 : Enters Tryd.prog 6 := enters Tryd.func6 (by kernel_rfl) rfl
theorem en7 : Enters Tryd.prog 7 := enters Tryd.func7 (by kernel_rfl) rfl
theorem en8 : Enters Tryd.prog 8 := enters Tryd.func8 (by kernel_rfl) rfl
theorem en9 : Enters Tryd.prog 9 := enters Tryd.func9 (by kernel_rfl) rfl
theorem en10 : Enters Tryd.prog 10 := enters Tryd.func10 (by kernel_rfl) rfl
theorem en11 : Enters Tryd.prog 11 := enters Tryd.func11 (by kernel_rfl) rfl
theorem en12 : Enters Tryd.prog 12 := enters Tryd.func12 (by kernel_rfl) rfl
theorem en13 : Enters Tryd.prog 13 := enters Tryd.func13 (by kernel_rfl) rfl
theorem en14 : Enters Tryd.prog 14 := enters Tryd.func14 (by kernel_rfl) rfl
theorem en15 : Enters Tryd.prog 15 := enters Tryd.func15 (by kernel_rfl) rfl
theorem en16 : Enters Tryd.prog 16 := enters Tryd.func16 (by kernel_rfl) rfl
theorem en17 : Enters Tryd.prog 17 := enters Tryd.func17 (by kernel_rfl) rfl
theorem en18 : Enters Tryd.prog 18 := enters Tryd.func18 (by kernel_rfl) rfl
theorem en19 : Enters Tryd.prog 19 := enters Tryd.func19 (by kernel_rfl) rfl
theorem en20 : Enters Tryd.prog 20 := enters Tryd.func20 (by kernel_rfl) rfl
theorem en21 : Enters Tryd.prog 21 := enters Tryd.func21 (by kernel_rfl) rfl
theorem en22 : Enters Tryd.prog 22 := enters Tryd.func22 (by kernel_rfl) rfl
theorem en23 : Enters Tryd.prog 23 := enters Tryd.func23 (by kernel_rfl) rfl
theorem en24 : Enters Tryd.prog 24 := enters Tryd.func24 (by kernel_rfl) rfl
theorem en25 : Enters Tryd.prog 25 := enters Tryd.func25 (by kernel_rfl) rfl
theorem en26 : Enters Tryd.prog 26 := enters Tryd.func26 (by kernel_rfl) rfl
theorem en27 : Enters Tryd.prog 27 := enters Tryd.func27 (by kernel_rfl) rfl
theorem en28 : Enters Tryd.prog 28 := enters Tryd.func28 (by kernel_rfl) rfl
theorem en29 : Enters Tryd.prog 29 := enters Tryd.func29 (by kernel_rfl) rfl
theorem en30 : Enters Tryd.prog 30 := enters Tryd.func30 (by kernel_rfl) rfl
theorem en31 : Enters Tryd.prog 31 := enters Tryd.func31 (by kernel_rfl) rfl
theorem en32 : Enters Tryd.prog 32 := enters Tryd.func32 (by kernel_rfl) rfl
theorem en33 : Enters Tryd.prog 33 := enters Tryd.func33 (by kernel_rfl) rfl
theorem en34 : Enters Tryd.prog 34 := enters Tryd.func34 (by kernel_rfl) rfl
theorem en35 : Enters Tryd.prog 35 := enters Tryd.func35 (by kernel_rfl) rfl
theorem en36 : Enters Tryd.prog 36 := enters Tryd.func36 (by kernel_rfl) rfl
theorem en37 : Enters Tryd.prog 37 := enters Tryd.func37 (by kernel_rfl) rfl
theorem en38 : Enters Tryd.prog 38 := enters Tryd.func38 (by kernel_rfl) rfl
theorem en39 : Enters Tryd.prog 39 := enters Tryd.func39 (by kernel_rfl) rfl
theorem en40 : Enters Tryd.prog 40 := enters Tryd.func40 (by kernel_rfl) rfl
theorem en41 : Enters Tryd.prog 41 := enters Tryd.func41 (by kernel_rfl) rfl
theorem en42 : Enters Tryd.prog 42 := enters Tryd.func42 (by kernel_rfl) rfl
theorem en43 : Enters Tryd.prog 43 := enters Tryd.func43 (by kernel_rfl) rfl
theorem en44 : Enters Tryd.prog 44 := enters Tryd.func44 (by kernel_rfl) rfl
theorem en45 : Enters Tryd.prog 45 := enters Tryd.func45 (by kernel_rfl) rfl
theorem en46 : Enters Tryd.prog 46 := enters Tryd.func46 (by kernel_rfl) rfl
theorem en47 : Enters Tryd.prog 47 := enters Tryd.func47 (by kernel_rfl) rfl
theorem en48 : Enters Tryd.prog 48 := enters Tryd.func48 (by kernel_rfl) rfl
theorem en49 : Enters Tryd.prog 49 := enters Tryd.func49 (by kernel_rfl) rfl
theorem en50 : Enters Tryd.prog 50 := enters Tryd.func50 (by kernel_rfl) rfl
theorem en51 : Enters Tryd.prog 51 := enters Tryd.func51 (by kernel_rfl) rfl
theorem en52 : Enters Tryd.prog 52 := enters Tryd.func52 (by kernel_rfl) rfl
theorem en53 : Enters Tryd.prog 53 := enters Tryd.func53 (by kernel_rfl) rfl
theorem en54 : Enters Tryd.prog 54 := enters Tryd.func54 (by kernel_rfl) rfl
theorem en55 : Enters Tryd.prog 55 := enters Tryd.func55 (by kernel_rfl) rfl
theorem en56 : Enters Tryd.prog 56 := enters Tryd.func56 (by kernel_rfl) rfl
theorem en57 : Enters Tryd.prog 57 := enters Tryd.func57 (by kernel_rfl) rfl
theorem en58 : Enters Tryd.prog 58 := enters Tryd.func58 (by kernel_rfl) rfl
theorem en59 : Enters Tryd.prog 59 := enters Tryd.func59 (by kernel_rfl) rfl
theorem en60 : Enters Tryd.prog 60 := enters Tryd.func60 (by kernel_rfl) rfl
theorem en61 : Enters Tryd.prog 61 := enters Tryd.func61 (by kernel_rfl) rfl
theorem en62 : Enters Tryd.prog 62 := enters Tryd.func62 (by kernel_rfl) rfl
theorem en63 : Enters Tryd.prog 63 := enters Tryd.func63 (by kernel_rfl) rfl
theorem en64 : Enters Tryd.prog 64 := enters Tryd.func64 (by kernel_rfl) rfl
theorem en65 : Enters Tryd.prog 65 := enters Tryd.func65 (by kernel_rfl) rfl
theorem en66 : Enters Tryd.prog 66 := enters Tryd.func66 (by kernel_rfl) rfl
theorem en67 : Enters Tryd.prog 67 := enters Tryd.func67 (by kernel_rfl) rfl
theorem en68 : Enters Tryd.prog 68 := enters Tryd.func68 (by kernel_rfl) rfl
theorem en69 : Enters Tryd.prog 69 := enters Tryd.func69 (by kernel_rfl) rfl
theorem en70 : Enters Tryd.prog 70 := enters Tryd.func70 (by kernel_rfl) rfl
theorem en71 : Enters Tryd.prog 71 := enters Tryd.func71 (by kernel_rfl) rfl
theorem en72 : Enters Tryd.prog 72 := enters Tryd.func72 (by kernel_rfl) rfl
theorem en73 : Enters Tryd.prog 73 := enters Tryd.func73 (by kernel_rfl) rfl
theorem en74 : Enters Tryd.prog 74 := enters Tryd.func74 (by kernel_rfl) rfl
theorem en75 : Enters Tryd.prog 75 := enters Tryd.func75 (by kernel_rfl) rfl
theorem en76 : Enters Tryd.prog 76 := enters Tryd.func76 (by kernel_rfl) rfl
theorem en77 : Enters Tryd.prog 77 := enters Tryd.func77 (by kernel_rfl) rfl
theorem en78 : Enters Tryd.prog 78 := enters Tryd.func78 (by kernel_rfl) rfl
theorem en79 : Enters Tryd.prog 79 := enters Tryd.func79 (by kernel_rfl) rfl
theorem en80 : Enters Tryd.prog 80 := enters Tryd.func80 (by kernel_rfl) rfl
theorem en81 : Enters Tryd.prog 81 := enters Tryd.func81 (by kernel_rfl) rfl
theorem en82 : Enters Tryd.prog 82 := enters Tryd.func82 (by kernel_rfl) rfl
theorem en83 : Enters Tryd.prog 83 := enters Tryd.func83 (by kernel_rfl) rfl
theorem en84 : Enters Tryd.prog 84 := enters Tryd.func84 (by kernel_rfl) rfl
theorem en85 : Enters Tryd.prog 85 := enters Tryd.func85 (by kernel_rfl) rfl
theorem en86 : Enters Tryd.prog 86 := enters Tryd.func86 (by kernel_rfl) rfl
theorem en87 : Enters Tryd.prog 87 := enters Tryd.func87 (by kernel_rfl) rfl
theorem en88 : Enters Tryd.prog 88 := enters Tryd.func88 (by kernel_rfl) rfl
theorem en89 : Enters Tryd.prog 89 := enters Tryd.func89 (by kernel_rfl) rfl
theorem en90 : Enters Tryd.prog 90 := enters Tryd.func90 (by kernel_rfl) rfl
theorem en91 : Enters Tryd.prog 91 := enters Tryd.func91 (by kernel_rfl) rfl
theorem en92 : Enters Tryd.prog 92 := enters Tryd.func92 (by kernel_rfl) rfl
theorem en93 : Enters Tryd.prog 93 := enters Tryd.func93 (by kernel_rfl) rfl
theorem en94 : Enters Tryd.prog 94 := enters Tryd.func94 (by kernel_rfl) rfl
theorem en95 : Enters Tryd.prog 95 := enters Tryd.func95 (by kernel_rfl) rfl
theorem en96 : Enters Tryd.prog 96 := enters Tryd.func96 (by kernel_rfl) rfl
theorem en97 : Enters Tryd.prog 97 := enters Tryd.func97 (by kernel_rfl) rfl
theorem en98 : Enters Tryd.prog 98 := enters Tryd.func98 (by kernel_rfl) rfl
theorem en99 : Enters Tryd.prog 99 := enters Tryd.func99 (by kernel_rfl) rfl
theorem en100 : Enters Tryd.prog 100 := enters Tryd.func100 (by kernel_rfl) rfl
theorem en101 : Enters Tryd.prog 101 := enters Tryd.func101 (by kernel_rfl) rfl
theorem en102 : Enters Tryd.prog 102 := enters Tryd.func102 (by kernel_rfl) rfl
theorem en103 : Enters Tryd.prog 103 := enters Tryd.func103 (by kernel_rfl) rfl
theorem en104 : Enters Tryd.prog 104 := enters Tryd.func104 (by kernel_rfl) rfl
theorem en105 : Enters Tryd.prog 105 := enters Tryd.func105 (by kernel_rfl) rfl
theorem en106 : Enters Tryd.prog 106 := enters Tryd.func106 (by kernel_rfl) rfl
theorem en107 : Enters Tryd.prog 107 := enters Tryd.func107 (by kernel_rfl) rfl
theorem en108 : Enters Tryd.prog 108 := enters Tryd.func108 (by kernel_rfl) rfl
theorem en109 : Enters Tryd.prog 109 := enters Tryd.func109 (by kernel_rfl) rfl
theorem en110 : Enters Tryd.prog 110 := enters Tryd.func110 (by kernel_rfl) rfl
theorem en111 : Enters Tryd.prog 111 := enters Tryd.func111 (by kernel_rfl) rfl
theorem en112 : Enters Tryd.prog 112 := enters Tryd.func112 (by kernel_rfl) rfl
theorem en113 : Enters Tryd.prog 113 := enters Tryd.func113 (by kernel_rfl) rfl
theorem en114 : Enters Tryd.prog 114 := enters Tryd.func114 (by kernel_rfl) rfl
theorem en115 : Enters Tryd.prog 115 := enters Tryd.func115 (by kernel_rfl) rfl
theorem en116 : Enters Tryd.prog 116 := enters Tryd.func116 (by kernel_rfl) rfl
theorem en117 : Enters Tryd.prog 117 := enters Tryd.func117 (by kernel_rfl) rfl
theorem en118 : Enters Tryd.prog 118 := enters Tryd.func118 (by kernel_rfl) rfl
theorem en119 : Enters Tryd.prog 119 := enters Tryd.func119 (by kernel_rfl) rfl
theorem en120 : Enters Tryd.prog 120 := enters Tryd.func120 (by kernel_rfl) rfl
theorem en121 : Enters Tryd.prog 121 := enters Tryd.func121 (by kernel_rfl) rfl
theorem en122 : Enters Tryd.prog 122 := enters Tryd.func122 (by kernel_rfl) rfl
theorem en123 : Enters Tryd.prog 123 := enters Tryd.func123 (by kernel_rfl) rfl
theorem en124 : Enters Tryd.prog 124 := enters Tryd.func124 (by kernel_rfl) rfl
theorem en125 : Enters Tryd.prog 125 := enters Tryd.func125 (by kernel_rfl) rfl
theorem en126 : Enters Tryd.prog 126 := enters Tryd.func126 (by kernel_rfl) rfl
theorem en129 : Enters Tryd.prog 129 := enters Tryd.func129 (by kernel_rfl) rfl
theorem en130 : Enters Tryd.prog 130 := enters Tryd.func130 (by kernel_rfl) rfl
theorem en131 : Enters Tryd.prog 131 := enters Tryd.func131 (by kernel_rfl) rfl
theorem en132 : Enters Tryd.prog 132 := enters Tryd.func132 (by kernel_rfl) rfl
theorem en133 : Enters Tryd.prog 133 := enters Tryd.func133 (by kernel_rfl) rfl
theorem en134 : Enters Tryd.prog 134 := enters Tryd.func134 (by kernel_rfl) rfl
theorem en135 : Enters Tryd.prog 135 := enters Tryd.func135 (by kernel_rfl) rfl
theorem en136 : Enters Tryd.prog 136 := enters Tryd.func136 (by kernel_rfl) rfl
theorem en137 : Enters Tryd.prog 137 := enters Tryd.func137 (by kernel_rfl) rfl
theorem en138 : Enters Tryd.prog 138 := enters Tryd.func138 (by kernel_rfl) rfl
theorem en139 : Enters Tryd.prog 139 := enters Tryd.func139 (by kernel_rfl) rfl
theorem en140 : Enters Tryd.prog 140 := enters Tryd.func140 (by kernel_rfl) rfl
theorem en141 : Enters Tryd.prog 141 := enters Tryd.func141 (by kernel_rfl) rfl
theorem en142 : Enters Tryd.prog 142 := enters Tryd.func142 (by kernel_rfl) rfl
theorem en143 : Enters Tryd.prog 143 := enters Tryd.func143 (by kernel_rfl) rfl
theorem en145 : Enters Tryd.prog 145 := enters Tryd.func145 (by kernel_rfl) rfl
theorem en146 : Enters Tryd.prog 146 := enters Tryd.func146 (by kernel_rfl) rfl
theorem en170 : Enters Tryd.prog 170 := enters Tryd.func170 (by kernel_rfl) rfl
theorem en183 : Enters Tryd.prog 183 := enters Tryd.func183 (by kernel_rfl) rfl
end Go.Proofs.YtgdfdkpkhjbibaaDoor
