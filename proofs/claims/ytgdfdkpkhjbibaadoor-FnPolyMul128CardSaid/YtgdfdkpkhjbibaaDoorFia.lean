/-
  The field's generated functions: sum, difference, product, square (written by genfia.py).
-/
import Derived.Test.YtgdfdkpkhjbibaaDoorHA
import Derived.Test.YtgdfdkpkhjbibaaDoorMont
namespace Go.Proofs.YtgdfdkpkhjbibaaDoor
open Go.RowKit
/-- What a pointer shows that may lie in the block that is written, as long as it is not. -/
theorem Hold.same {w0 w : World} {η : List (Nat × Obj)} {bo : Nat} {ob : Obj} (hw : Hold (fun k => k == bo) w0 η w) (h0 : w0.heap[bo]? = some ob) (i : Nat) (hi : η[i]? = some (bo, ob)) {b q : Nat} {v : Value} (hc : w0.cell? ⟨b, q, none⟩ = some v) : w.cell? ⟨b, q, none⟩ = some v := by
  have hb := World.block_lt_of_cell? w0 ⟨b, q, none⟩ hc
  have e : w.heap[b]? = w0.heap[b]? := by
    by_cases h : b = bo
    · subst h; rw [hw.at hi, h0]
    · exact hw.sn.block b hb (by simpa using h)
  simp only [World.cell?] at hc ⊢
  rw [e]; exact hc
theorem hold_one {w : World} {b : Nat} {ob : Obj} (h : w.heap[b]? = some ob) : Hold (fun k => k == b) w [(b, ob)] w := ⟨Sn.refl _ _, (fun p hp => by
  obtain rfl : p = (b, ob) := by simpa using hp
  exact h), by simp⟩
/-- How many numbers of 64 bits an element has. -/
abbrev nl : Nat := 2
/-- A number's cells. -/
def rawC (n : Nat) : Array Value := #[.int .u64 (n % 18446744073709551616 : Nat), .int .u64 (n / 18446744073709551616 : Nat)]
/-- A number laid into a row. -/
def putR (cs : Array Value) (o n : Nat) : Array Value := (cs.setIfInBounds o (.int .u64 (n % 18446744073709551616 : Nat))).setIfInBounds (o + 1) (.int .u64 (n / 18446744073709551616 : Nat))
theorem rawC_size (n : Nat) : (rawC n).size = nl := rfl
theorem putR_size (cs : Array Value) (o n : Nat) : (putR cs o n).size = cs.size := by simp [putR]
theorem rawC_one (n : Nat) : (rawC n).all (·.oneCell') = true := by simp [rawC, Value.oneCell']
/-- At an address there lies a number. -/
def RawAt (w : World) (b o n : Nat) : Prop := ∀ j v, (rawC n)[j]? = some v → w.cell? ⟨b, o + j, none⟩ = some v
theorem RawAt.same {w0 w : World} {η : List (Nat × Obj)} {bo : Nat} {ob : Obj} {b q x : Nat} (h : RawAt w0 b q x) (hw : Hold (fun k => k == bo) w0 η w) (h0 : w0.heap[bo]? = some ob) (i : Nat) (hi : η[i]? = some (bo, ob)) : RawAt w b q x := fun j v hj => hw.same h0 i hi (h j v hj)
theorem RawAt.row {w : World} {b T x : Nat} {fr : Nat × Nat} (h : w.heap[b]? = some (.cells (rawC x) T fr)) : RawAt w b 0 x := fun j v hj => by
  rw [Nat.zero_add, cell_of_row w b j _ T fr h]; exact hj
/-- A sum of words, its upper bits lost. -/
theorem adWr_ex : ∃ f : Nat → Nat → Nat, ∀ a b, f a b = (a + b) % 18446744073709551616 := ⟨_, fun _ _ => rfl⟩
noncomputable def adWr : Nat → Nat → Nat := Classical.choose adWr_ex
theorem adWr_eq (a b : Nat) : adWr a b = (a + b) % 18446744073709551616 := Classical.choose_spec adWr_ex a b
theorem adWr_lt (a b : Nat) : adWr a b < 18446744073709551616 := by rw [adWr_eq]; exact Nat.mod_lt _ (by decide)
theorem waddR (x y : Nat) : IntKind.u64.wrap ((x : Int) + (y : Int)) = (adWr x y : Int) := by
  rw [IntKind.wrap_u64, adWr_eq]; omega
theorem ownB (b : Nat) {w : World} : w.heap.size ≤ b ∨ (fun k => k == b) b = true := .inr (by simp)

theorem cmov_any (b z c x y : Nat) (T : TypeId) (hc : c ≤ 1) (hx : x < 18446744073709551616) (hy : y < 18446744073709551616) (w : World) (h0 : w.heap[b]? = some (.cells #[.int .u64 (z : Int)] T (0, 0))) :
    Calls Tryd.prog 129 #[.pointer (some ⟨b, 0, none⟩), .int .u64 (c : Int), .int .u64 (x : Int), .int .u64 (y : Int)] w fun e w' => e = .returned (.tuple #[]) ∧ Hold (fun k => k == b) w [(b, .cells #[.int .u64 (selN c x y : Nat)] T (0, 0))] w' := by
  refine calls_H (args := [.pointer (some ⟨b, 0, none⟩), .int .u64 (c : Int), .int .u64 (x : Int), .int .u64 (y : Int)]) (fun k => k == b) [(b, .cells #[.int .u64 (z : Int)] T (0, 0))] Tryd.func129 rfl (m := 19) rfl rfl (hold_one h0) ?_
  refine HC.region ?_
  refine HL.val (Val.move rfl) (by decide) ?_
  refine HL.val (Val.move rfl) (by decide) ?_
  refine HL.val (Val.move rfl) (by decide) ?_
  refine HL.val (Val.negI rfl) (by decide) ?_
  refine HL.val (Val.andNotI rfl rfl) (by decide) ?_
  refine HL.val (Val.move rfl) (by decide) ?_
  refine HL.val (Val.move rfl) (by decide) ?_
  refine HL.val (Val.negI rfl) (by decide) ?_
  refine HL.val (Val.andI rfl rfl) (by decide) ?_
  refine HL.val ((Val.orI rfl rfl).as (congrArg (Value.int .u64) (cmov_sel hc hx hy))) (by decide) ?_
  refine HL.val (Val.nilCheck rfl) (by decide) ?_
  refine HL.put 0 rfl (Put.cell rfl rfl (by kernel_rfl) (show 0 < 1 from by decide) rfl) (ownB b) ?_
  simp only [List.set_cons_zero]
  refine HL.nil ?_
  exact HQ.end0 rfl (fun w hw => ⟨rfl, hw⟩)

theorem cmovI_any {X Y C : Int} (b z c x y : Nat) (T : TypeId) (hC : C = c) (hX : X = x) (hY : Y = y) (hc : c ≤ 1) (hx : x < 18446744073709551616) (hy : y < 18446744073709551616) (w : World) (h0 : w.heap[b]? = some (.cells #[.int .u64 (z : Int)] T (0, 0))) :
    Calls Tryd.prog 129 #[.pointer (some ⟨b, 0, none⟩), .int .u64 C, .int .u64 X, .int .u64 Y] w fun e w' => e = .returned (.tuple #[]) ∧ Hold (fun k => k == b) w [(b, .cells #[.int .u64 (selN c x y : Nat)] T (0, 0))] w' := by
  subst hX hY hC; exact cmov_any b z c x y T hc hx hy w h0

theorem hi64 {a : Nat} (h : a < pf) : a / 18446744073709551616 < 18446744073709551616 := Nat.div_lt_of_lt_mul (Nat.lt_trans h (by decide))
theorem limbs_of {v0 v1 r : Nat} (h0 : v0 < 18446744073709551616) (h : v0 + 18446744073709551616 * v1 = r) : v0 = r % 18446744073709551616 ∧ v1 = r / 18446744073709551616 := by omega
theorem and_sel1 {c : Nat} (hc : c ≤ 1) : bits .and .u64 ((selN c 0 18446744073709551615 : Nat) : Int) 1 = ((selN c 0 1 : Nat) : Int) := by
  rcases (show c = 0 ∨ c = 1 by omega) with rfl | rfl <;> decide +kernel
theorem and_selc {c : Nat} (hc : c ≤ 1) : bits .and .u64 ((selN c 0 18446744073709551615 : Nat) : Int) 18446744073709551588 = ((selN c 0 18446744073709551588 : Nat) : Int) := by
  rcases (show c = 0 ∨ c = 1 by omega) with rfl | rfl <;> decide +kernel
theorem adNo {a b : Nat} (h : a + b < 18446744073709551616) : adWr a b = a + b := by rw [adWr_eq, Nat.mod_eq_of_lt h]
theorem fia_add {a b s1 d1 s2 d2 s3 d3 s4 d4 s5 d5 : Nat} (ha : a < pf) (hb : b < pf) (e1 : AddE (a % 18446744073709551616) (b % 18446744073709551616) 0 s1 d1) (e2 : AddE (a / 18446744073709551616) (b / 18446744073709551616) d1 s2 d2) (e3 : SubE s1 1 0 s3 d3) (e4 : SubE s2 18446744073709551588 d3 s4 d4) (e5 : SubE d2 0 d4 s5 d5) :
    selN d5 s3 s1 = (a + b) % pf % 18446744073709551616 ∧ selN d5 s4 s2 = (a + b) % pf / 18446744073709551616 := by
  have h : (a + b) % pf = if a + b < pf then a + b else a + b - pf := by
    split
    · next h => exact Nat.mod_eq_of_lt h
    · next h => rw [Nat.mod_eq_sub_mod (by omega), Nat.mod_eq_of_lt (by omega)]
  rw [h]
  refine limbs_of (selN_lt e3.lt e1.lt) ?_
  unfold AddE SubE selN pf at *
  split <;> split <;> omega
theorem fia_sub {a b s1 d1 s2 d2 s4 d4 s5 d5 : Nat} (ha : a < pf) (hb : b < pf) (e1 : SubE (a % 18446744073709551616) (b % 18446744073709551616) 0 s1 d1) (e2 : SubE (a / 18446744073709551616) (b / 18446744073709551616) d1 s2 d2) (e4 : AddE s1 (selN d2 0 1) 0 s4 d4) (e5 : AddE s2 (selN d2 0 18446744073709551588) d4 s5 d5) :
    s4 = subF a b % 18446744073709551616 ∧ s5 = subF a b / 18446744073709551616 := by
  refine limbs_of e4.lt ?_
  rw [subF_eq]
  have h : ∀ P, a < P → b < P → (a + (P - b)) % P = if a < b then a + (P - b) else a - b := fun P h1 h2 => by
    split
    · exact Nat.mod_eq_of_lt (by omega)
    · rw [Nat.mod_eq_sub_mod (by omega), Nat.mod_eq_of_lt (by omega)]; omega
  rw [h _ ha hb]
  have k1 : selN d2 0 1 = d2 := by rcases (show d2 = 0 ∨ d2 = 1 by have := e2.c; omega) with rfl | rfl <;> rfl
  have k2 : selN d2 0 18446744073709551588 = 18446744073709551588 * d2 := by rcases (show d2 = 0 ∨ d2 = 1 by have := e2.c; omega) with rfl | rfl <;> rfl
  rw [k1] at e4
  rw [k2] at e5
  unfold AddE SubE pf at *
  split <;> omega
theorem row_a {P0 P1 h1 l1 h2 l2 s3 d3 x9 h4 m h5 l5 s6 d6 s7 d7 s8 d8 : Nat} (p1 : P1 = l1 + 18446744073709551616 * h1) (p0 : P0 = l2 + 18446744073709551616 * h2) (e3 : AddE h2 l1 0 s3 d3) (hx : x9 = d3 + h1) (e4 : MulE l2 18446744073709551615 h4 m) (e5 : MulE m 18446744073709551588 h5 l5) (e6 : AddE l2 m 0 s6 d6) (e7 : AddE s3 l5 d6 s7 d7) (e8 : AddE x9 h5 d7 s8 d8) (_hl : l2 < 18446744073709551616) :
    18446744073709551616 * (s7 + 18446744073709551616 * s8 + 340282366920938463463374607431768211456 * d8) = P0 + 18446744073709551616 * P1 + m * 340282366920938462946865773367900766209 := by
  unfold AddE MulE at *
  have h6 : s6 = 0 := by omega
  omega
theorem row_b {P0 P1 h1 l1 h2 l2 s3 d3 x26 t0 t1 t2 s12 d12 s13 d13 s14 d14 : Nat} (p1 : P1 = l1 + 18446744073709551616 * h1) (p0 : P0 = l2 + 18446744073709551616 * h2) (e3 : AddE h2 l1 0 s3 d3) (hx : x26 = d3 + h1) (e12 : AddE t0 l2 0 s12 d12) (e13 : AddE t1 s3 d12 s13 d13) (e14 : AddE t2 x26 d13 s14 d14) :
    s12 + 18446744073709551616 * s13 + 340282366920938463463374607431768211456 * s14 + 6277101735386680763835789423207666416102355444464034512896 * d14 = t0 + 18446744073709551616 * t1 + 340282366920938463463374607431768211456 * t2 + P0 + 18446744073709551616 * P1 := by
  unfold AddE at *
  omega
theorem row_c {t0 t1 t2 t3 h15 m h16 l16 s17 d17 s18 d18 s19 d19 : Nat} (e15 : MulE t0 18446744073709551615 h15 m) (e16 : MulE m 18446744073709551588 h16 l16) (e17 : AddE t0 m 0 s17 d17) (e18 : AddE t1 l16 d17 s18 d18) (e19 : AddE t2 h16 d18 s19 d19) (_hl : t0 < 18446744073709551616) :
    18446744073709551616 * (s18 + 18446744073709551616 * s19 + 340282366920938463463374607431768211456 * (d19 + t3)) = t0 + 18446744073709551616 * t1 + 340282366920938463463374607431768211456 * t2 + 6277101735386680763835789423207666416102355444464034512896 * t3 + m * 340282366920938462946865773367900766209 := by
  unfold AddE MulE at *
  have h6 : s17 = 0 := by omega
  omega
theorem hi_le {x y h l : Nat} (hx : x < 18446744073709551616) (hy : y < 18446744073709551616) (e : MulE x y h l) : h ≤ 18446744073709551614 := by
  have h1 : x * y ≤ 18446744073709551615 * 18446744073709551615 := Nat.mul_le_mul (by omega) (by omega)
  unfold MulE at e
  omega
theorem fia_mul {a b h1 l1 h2 l2 s3 d3 h4 m1 h5 l5 s6 d6 s7 d7 s8 d8 h9 l9 h10 l10 s11 d11 s12 d12 s13 d13 s14 d14 h15 m2 h16 l16 s17 d17 s18 d18 s19 d19 s20 d20 s21 d21 s22 d22 : Nat} (ha : a < pf) (hb : b < pf)
    (e1 : MulE (a % 18446744073709551616) (b / 18446744073709551616) h1 l1) (e2 : MulE (a % 18446744073709551616) (b % 18446744073709551616) h2 l2) (e3 : AddE h2 l1 0 s3 d3) (e4 : MulE l2 18446744073709551615 h4 m1) (e5 : MulE m1 18446744073709551588 h5 l5) (e6 : AddE l2 m1 0 s6 d6) (e7 : AddE s3 l5 d6 s7 d7) (e8 : AddE (adWr d3 h1) h5 d7 s8 d8)
    (e9 : MulE (a / 18446744073709551616) (b / 18446744073709551616) h9 l9) (e10 : MulE (a / 18446744073709551616) (b % 18446744073709551616) h10 l10) (e11 : AddE h10 l9 0 s11 d11) (e12 : AddE s7 l10 0 s12 d12) (e13 : AddE s8 s11 d12 s13 d13) (e14 : AddE d8 (adWr d11 h9) d13 s14 d14)
    (e15 : MulE s12 18446744073709551615 h15 m2) (e16 : MulE m2 18446744073709551588 h16 l16) (e17 : AddE s12 m2 0 s17 d17) (e18 : AddE s13 l16 d17 s18 d18) (e19 : AddE s14 h16 d18 s19 d19) (e20 : SubE s18 1 0 s20 d20) (e21 : SubE s19 18446744073709551588 d20 s21 d21) (e22 : SubE (adWr d19 d14) 0 d21 s22 d22) :
    selN d22 s20 s18 = mm a b % 18446744073709551616 ∧ selN d22 s21 s19 = mm a b / 18446744073709551616 := by
  have q1 := hi_le (Nat.mod_lt _ (by decide)) (hi64 hb) e1
  have q9 := hi_le (hi64 ha) (hi64 hb) e9
  rw [adNo (by have := e3.c; omega)] at e8
  rw [adNo (by have := e11.c; omega)] at e14
  rw [adNo (by have := e19.c; have := e14.c; omega)] at e22
  have r1 := row_a e1.2.2 e2.2.2 e3 rfl e4 e5 e6 e7 e8 e2.lo
  have r2 := row_b e9.2.2 e10.2.2 e11 rfl e12 e13 e14
  have r3 := row_c (t3 := d14) e15 e16 e17 e18 e19 e12.lt
  have hab : a * b = a % 18446744073709551616 * (b % 18446744073709551616) + 18446744073709551616 * (a % 18446744073709551616 * (b / 18446744073709551616)) + 18446744073709551616 * (a / 18446744073709551616 * (b % 18446744073709551616)) + 340282366920938463463374607431768211456 * (a / 18446744073709551616 * (b / 18446744073709551616)) := by
    have ea : a = a % 18446744073709551616 + 18446744073709551616 * (a / 18446744073709551616) := (Nat.mod_add_div a 18446744073709551616).symm
    have eb : b = b % 18446744073709551616 + 18446744073709551616 * (b / 18446744073709551616) := (Nat.mod_add_div b 18446744073709551616).symm
    generalize a % 18446744073709551616 = A0 at *
    generalize a / 18446744073709551616 = A1 at *
    generalize b % 18446744073709551616 = B0 at *
    generalize b / 18446744073709551616 = B1 at *
    subst ea eb
    grind
  have hbd : a * b ≤ 340282366920938462946865773367900766208 * 340282366920938462946865773367900766208 := Nat.mul_le_mul (by unfold pf at ha; omega) (by unfold pf at hb; omega)
  generalize a % 18446744073709551616 * (b % 18446744073709551616) = P00 at *
  generalize a % 18446744073709551616 * (b / 18446744073709551616) = P01 at *
  generalize a / 18446744073709551616 * (b % 18446744073709551616) = P10 at *
  generalize a / 18446744073709551616 * (b / 18446744073709551616) = P11 at *
  have hR : 340282366920938463463374607431768211456 * (s18 + 18446744073709551616 * s19 + 340282366920938463463374607431768211456 * (d19 + d14)) = a * b + (m1 + 18446744073709551616 * m2) * 340282366920938462946865773367900766209 := by omega
  have hm1 := e4.lo
  have hm2 := e15.lo
  clear r1 r2 r3 e1 e2 e3 e4 e5 e6 e7 e8 e9 e10 e11 e12 e13 e15 e16 e17
  have hlt : s18 + 18446744073709551616 * s19 + 340282366920938463463374607431768211456 * (d19 + d14) < 2 * 340282366920938462946865773367900766209 := by omega
  refine limbs_of (selN_lt e20.lt e18.lt) ?_
  have h18 := e18.lt
  have h19 := e19.lt
  have hr : selN d22 s20 s18 + 18446744073709551616 * selN d22 s21 s19 < 340282366920938462946865773367900766209 ∧ (s18 + 18446744073709551616 * s19 + 340282366920938463463374607431768211456 * (d19 + d14) = selN d22 s20 s18 + 18446744073709551616 * selN d22 s21 s19 ∨ s18 + 18446744073709551616 * s19 + 340282366920938463463374607431768211456 * (d19 + d14) = selN d22 s20 s18 + 18446744073709551616 * selN d22 s21 s19 + 340282366920938462946865773367900766209) := by
    clear hR hab hbd e14 e18 e19
    unfold SubE at e20 e21 e22
    unfold selN
    split <;> omega
  generalize selN d22 s20 s18 + 18446744073709551616 * selN d22 s21 s19 = r at *
  generalize s18 + 18446744073709551616 * s19 + 340282366920938463463374607431768211456 * (d19 + d14) = R at *
  refine mm_of hr.1 ?_
  have e : R * rf % pf = a * b % pf := by
    have : R * rf = a * b + (m1 + 18446744073709551616 * m2) * pf := by unfold rf pf; omega
    rw [this]; exact Nat.add_mul_mod_self_right _ _ _
  rw [← e]
  rcases hr.2 with h | h
  · rw [h]
  · rw [h, Nat.add_mul]
    show r * rf % pf = (r * rf + pf * rf) % pf
    rw [Nat.add_mul_mod_self_left]

set_option maxRecDepth 100000 in
set_option maxHeartbeats 1000000 in
theorem fiaAdd_any {bo oo T bx ox x bz oy y : Nat} {cs : Array Value} {w : World} (h0 : w.heap[bo]? = some (.cells cs T (0, 0))) (ho : oo < cs.size) (ho1 : oo + 1 < cs.size) (hx0 : w.cell? ⟨bx, ox, none⟩ = some (.int .u64 ((x % 18446744073709551616 : Nat) : Int))) (hx1 : w.cell? ⟨bx, ox + 1, none⟩ = some (.int .u64 ((x / 18446744073709551616 : Nat) : Int))) (px : x < pf) (hy0 : w.cell? ⟨bz, oy, none⟩ = some (.int .u64 ((y % 18446744073709551616 : Nat) : Int))) (hy1 : w.cell? ⟨bz, oy + 1, none⟩ = some (.int .u64 ((y / 18446744073709551616 : Nat) : Int))) (py : y < pf) :
    Calls Tryd.prog 109 #[.pointer (some ⟨bo, oo, none⟩), .pointer (some ⟨bx, ox, none⟩), .pointer (some ⟨bz, oy, none⟩)] w fun e w' => e = .returned (.tuple #[]) ∧ Hold (fun k => k == bo) w [(bo, .cells (putR cs oo ((x + y) % pf)) T (0, 0))] w' := by
  refine calls_H (args := [.pointer (some ⟨bo, oo, none⟩), .pointer (some ⟨bx, ox, none⟩), .pointer (some ⟨bz, oy, none⟩)]) (fun k => k == bo) [(bo, .cells cs T (0, 0))] Tryd.func109 rfl (m := 75) rfl rfl (hold_one h0) ?_
  refine HC.seq ?_
  refine HC.region ?_
  refine HL.val (Val.assign rfl) (by decide) ?_
  refine HL.nil ?_
  refine HQ.next ?_
  refine HC.seq ?_
  refine HC.region ?_
  refine HL.val (Val.assign rfl) (by decide) ?_
  refine HL.nil ?_
  refine HQ.next ?_
  refine HC.seq ?_
  refine HC.draw0 13 (by kernel_rfl) (by kernel_rfl) ?_
  simp only [List.take, List.drop]
  refine HV.val (Val.move rfl) (by decide) ?_
  refine HV.val (Val.nilCheck rfl) (by decide) ?_
  refine HV.val (Val.ixAddrQ (ox) (i := 0) (m := 2) (s := 1) (e := 23) rfl rfl Tryd.underlying81 (by kernel_rfl) (by decide) (by omega)) (by decide) ?_
  refine HV.val (Val.load_one rfl (fun w hw => hw.same h0 0 rfl hx0) Tryd.underlying23 rfl) (by decide) ?_
  refine HV.val (Val.move rfl) (by decide) ?_
  refine HV.val (Val.nilCheck rfl) (by decide) ?_
  refine HV.val (Val.ixAddrQ (oy) (i := 0) (m := 2) (s := 1) (e := 23) rfl rfl Tryd.underlying81 (by kernel_rfl) (by decide) (by omega)) (by decide) ?_
  refine HV.val (Val.load_one rfl (fun w hw => hw.same h0 0 rfl hy0) Tryd.underlying23 rfl) (by decide) ?_
  refine HV.val (Val.callV (addVI ((x % 18446744073709551616)) ((y % 18446744073709551616)) 0 rfl rfl (by omega) (Nat.mod_lt _ (by decide)) (Nat.mod_lt _ (by decide)) (by decide)) rfl) (by decide) ?_
  have e1 := addE (x := ((x % 18446744073709551616))) (y := ((y % 18446744073709551616))) (c := 0) (Nat.mod_lt _ (by decide)) (Nat.mod_lt _ (by decide)) (by decide)
  generalize addS ((x % 18446744073709551616)) ((y % 18446744073709551616)) 0 = s1 at *
  generalize addD ((x % 18446744073709551616)) ((y % 18446744073709551616)) 0 = d1 at *
  refine HV.val (Val.move rfl) (by decide) ?_
  refine HV.val (Val.extract rfl rfl) (by decide) ?_
  refine HV.val (Val.extract rfl rfl) (by decide) ?_
  refine HV.val (Val.assign rfl) (by decide) ?_
  refine HV.tail0 ?_
  refine HL.val (Val.assign rfl) (by decide) ?_
  refine HL.nil ?_
  refine HQ.next ?_
  refine HC.seq ?_
  refine HC.region ?_
  refine HL.val (Val.assign rfl) (by decide) ?_
  refine HL.nil ?_
  refine HQ.next ?_
  refine HC.seq ?_
  refine HC.region ?_
  refine HL.val (Val.assign rfl) (by decide) ?_
  refine HL.nil ?_
  refine HQ.next ?_
  refine HC.seq ?_
  refine HC.draw0 14 (by kernel_rfl) (by kernel_rfl) ?_
  simp only [List.take, List.drop]
  refine HV.val (Val.move rfl) (by decide) ?_
  refine HV.val (Val.nilCheck rfl) (by decide) ?_
  refine HV.val (Val.ixAddrQ (ox + 1) (i := 1) (m := 2) (s := 1) (e := 23) rfl rfl Tryd.underlying81 (by kernel_rfl) (by decide) (by omega)) (by decide) ?_
  refine HV.val (Val.load_one rfl (fun w hw => hw.same h0 0 rfl hx1) Tryd.underlying23 rfl) (by decide) ?_
  refine HV.val (Val.move rfl) (by decide) ?_
  refine HV.val (Val.nilCheck rfl) (by decide) ?_
  refine HV.val (Val.ixAddrQ (oy + 1) (i := 1) (m := 2) (s := 1) (e := 23) rfl rfl Tryd.underlying81 (by kernel_rfl) (by decide) (by omega)) (by decide) ?_
  refine HV.val (Val.load_one rfl (fun w hw => hw.same h0 0 rfl hy1) Tryd.underlying23 rfl) (by decide) ?_
  refine HV.val (Val.move rfl) (by decide) ?_
  refine HV.val (Val.callV (addVI ((x / 18446744073709551616)) ((y / 18446744073709551616)) d1 rfl rfl rfl (hi64 px) (hi64 py) e1.c) rfl) (by decide) ?_
  have e2 := addE (x := ((x / 18446744073709551616))) (y := ((y / 18446744073709551616))) (c := d1) (hi64 px) (hi64 py) e1.c
  generalize addS ((x / 18446744073709551616)) ((y / 18446744073709551616)) d1 = s2 at *
  generalize addD ((x / 18446744073709551616)) ((y / 18446744073709551616)) d1 = d2 at *
  refine HV.val (Val.move rfl) (by decide) ?_
  refine HV.val (Val.extract rfl rfl) (by decide) ?_
  refine HV.val (Val.extract rfl rfl) (by decide) ?_
  refine HV.val (Val.assign rfl) (by decide) ?_
  refine HV.tail0 ?_
  refine HL.val (Val.assign rfl) (by decide) ?_
  refine HL.nil ?_
  refine HQ.next ?_
  refine HC.seq ?_
  refine HC.region ?_
  refine HL.val (Val.assign rfl) (by decide) ?_
  refine HL.nil ?_
  refine HQ.next ?_
  refine HC.seq ?_
  refine HC.region ?_
  refine HL.val (Val.assign rfl) (by decide) ?_
  refine HL.nil ?_
  refine HQ.next ?_
  refine HC.seq ?_
  refine HC.region ?_
  refine HL.val (Val.move rfl) (by decide) ?_
  refine HL.val (Val.callV (subVI s1 1 0 rfl (by omega) (by omega) e1.lt (by decide) (by decide)) rfl) (by decide) ?_
  have e3 := subE (x := s1) (y := 1) (c := 0) e1.lt (by decide) (by decide)
  generalize subS s1 1 0 = s3 at *
  generalize subD s1 1 0 = d3 at *
  refine HL.val (Val.move rfl) (by decide) ?_
  refine HL.val (Val.extract rfl rfl) (by decide) ?_
  refine HL.val (Val.extract rfl rfl) (by decide) ?_
  refine HL.val (Val.assign rfl) (by decide) ?_
  refine HL.val (Val.assign rfl) (by decide) ?_
  refine HL.nil ?_
  refine HQ.next ?_
  refine HC.seq ?_
  refine HC.region ?_
  refine HL.val (Val.assign rfl) (by decide) ?_
  refine HL.nil ?_
  refine HQ.next ?_
  refine HC.seq ?_
  refine HC.region ?_
  refine HL.val (Val.assign rfl) (by decide) ?_
  refine HL.nil ?_
  refine HQ.next ?_
  refine HC.seq ?_
  refine HC.region ?_
  refine HL.val (Val.move rfl) (by decide) ?_
  refine HL.val (Val.move rfl) (by decide) ?_
  refine HL.val (Val.callV (subVI s2 18446744073709551588 d3 rfl (by omega) rfl e2.lt (by decide) e3.c) rfl) (by decide) ?_
  have e4 := subE (x := s2) (y := 18446744073709551588) (c := d3) e2.lt (by decide) e3.c
  generalize subS s2 18446744073709551588 d3 = s4 at *
  generalize subD s2 18446744073709551588 d3 = d4 at *
  refine HL.val (Val.move rfl) (by decide) ?_
  refine HL.val (Val.extract rfl rfl) (by decide) ?_
  refine HL.val (Val.extract rfl rfl) (by decide) ?_
  refine HL.val (Val.assign rfl) (by decide) ?_
  refine HL.val (Val.assign rfl) (by decide) ?_
  refine HL.nil ?_
  refine HQ.next ?_
  refine HC.seq ?_
  refine HC.region ?_
  refine HL.val (Val.assign rfl) (by decide) ?_
  refine HL.nil ?_
  refine HQ.next ?_
  refine HC.seq ?_
  refine HC.region ?_
  refine HL.val (Val.move rfl) (by decide) ?_
  refine HL.val (Val.move rfl) (by decide) ?_
  refine HL.val (Val.callV (subVI d2 0 d4 rfl (by omega) rfl e2.clt (by decide) e4.c) rfl) (by decide) ?_
  have e5 := subE (x := d2) (y := 0) (c := d4) e2.clt (by decide) e4.c
  generalize subS d2 0 d4 = s5 at *
  generalize subD d2 0 d4 = d5 at *
  refine HL.val (Val.move rfl) (by decide) ?_
  refine HL.val (Val.extract rfl rfl) (by decide) ?_
  refine HL.val (Val.extract rfl rfl) (by decide) ?_
  refine HL.val (Val.assign rfl) (by decide) ?_
  refine HL.nil ?_
  refine HQ.next ?_
  refine HC.seq ?_
  refine HC.region ?_
  refine HL.new (New.alloc (cs := #[.int .u64 ((0 : Nat) : Int)]) (fun _ => rfl)) (by decide) ?_
  intro b1 hb1
  refine HL.nil ?_
  refine HQ.next ?_
  refine HC.seq ?_
  refine HC.region ?_
  refine HL.val (Val.move rfl) (by decide) ?_
  refine HL.val (Val.move rfl) (by decide) ?_
  refine HL.val (Val.move rfl) (by decide) ?_
  refine HL.callD en129 rfl (fun w hw => lift_one hw (i := 0) rfl (.inl hb1) (cmovI_any b1 0 d5 s3 s1 _ rfl rfl rfl e5.c e3.lt e1.lt w (hw.at (i := 0) rfl))) (by decide) ?_
  simp only [List.set_cons_zero]
  refine HL.nil ?_
  refine HQ.next ?_
  refine HC.seq ?_
  refine HC.region ?_
  refine HL.new (New.alloc (cs := #[.int .u64 ((0 : Nat) : Int)]) (fun _ => rfl)) (by decide) ?_
  intro b2 hb2
  refine HL.nil ?_
  refine HQ.next ?_
  refine HC.seq ?_
  refine HC.region ?_
  refine HL.val (Val.move rfl) (by decide) ?_
  refine HL.val (Val.move rfl) (by decide) ?_
  refine HL.val (Val.move rfl) (by decide) ?_
  refine HL.callD en129 rfl (fun w hw => lift_one hw (i := 0) rfl (.inl hb2) (cmovI_any b2 0 d5 s4 s2 _ rfl rfl rfl e5.c e4.lt e2.lt w (hw.at (i := 0) rfl))) (by decide) ?_
  simp only [List.set_cons_zero]
  refine HL.nil ?_
  refine HQ.next ?_
  refine HC.seq ?_
  refine HC.draw0 4 (by kernel_rfl) (by kernel_rfl) ?_
  simp only [List.take, List.drop]
  refine HV.val (Val.move rfl) (by decide) ?_
  refine HV.val (Val.load_cell rfl (fun w hw => hw.at (i := 1) rfl) rfl Tryd.underlying23 rfl) (by decide) ?_
  refine HV.val (Val.nilCheck rfl) (by decide) ?_
  refine HV.val (Val.ixAddrQ (oo) (i := 0) (m := 2) (s := 1) (e := 23) rfl rfl Tryd.underlying81 (by kernel_rfl) (by decide) (by omega)) (by decide) ?_
  refine HV.tail0 ?_
  refine HL.put 2 rfl (Put.cell rfl rfl (by kernel_rfl) ho rfl) (ownB bo) ?_
  simp only [List.set_cons_zero, List.set_cons_succ]
  refine HL.nil ?_
  refine HQ.next ?_
  refine HC.draw0 4 (by kernel_rfl) (by kernel_rfl) ?_
  simp only [List.take, List.drop]
  refine HV.val (Val.move rfl) (by decide) ?_
  refine HV.val (Val.load_cell rfl (fun w hw => hw.at (i := 0) rfl) rfl Tryd.underlying23 rfl) (by decide) ?_
  refine HV.val (Val.nilCheck rfl) (by decide) ?_
  refine HV.val (Val.ixAddrQ (oo + 1) (i := 1) (m := 2) (s := 1) (e := 23) rfl rfl Tryd.underlying81 (by kernel_rfl) (by decide) (by omega)) (by decide) ?_
  refine HV.tail0 ?_
  refine HL.put 2 rfl (Put.cell rfl rfl (by kernel_rfl) (by rw [Array.size_setIfInBounds]; exact ho1) rfl) (ownB bo) ?_
  simp only [List.set_cons_zero, List.set_cons_succ]
  refine HL.nil ?_
  refine HQ.end0 rfl (fun w hw => ⟨rfl, ?_⟩)
  have hm := fia_add px py e1 e2 e3 e4 e5
  have h := hw.pick [2] (by simp)
  simp only [List.filterMap_cons, List.filterMap_nil, List.getElem?_cons_zero, List.getElem?_cons_succ] at h
  rw [hm.1, hm.2] at h
  exact h

set_option maxRecDepth 100000 in
set_option maxHeartbeats 1000000 in
theorem fiaSub_any {bo oo T bx ox x bz oy y : Nat} {cs : Array Value} {w : World} (h0 : w.heap[bo]? = some (.cells cs T (0, 0))) (ho : oo < cs.size) (ho1 : oo + 1 < cs.size) (hx0 : w.cell? ⟨bx, ox, none⟩ = some (.int .u64 ((x % 18446744073709551616 : Nat) : Int))) (hx1 : w.cell? ⟨bx, ox + 1, none⟩ = some (.int .u64 ((x / 18446744073709551616 : Nat) : Int))) (px : x < pf) (hy0 : w.cell? ⟨bz, oy, none⟩ = some (.int .u64 ((y % 18446744073709551616 : Nat) : Int))) (hy1 : w.cell? ⟨bz, oy + 1, none⟩ = some (.int .u64 ((y / 18446744073709551616 : Nat) : Int))) (py : y < pf) :
    Calls Tryd.prog 113 #[.pointer (some ⟨bo, oo, none⟩), .pointer (some ⟨bx, ox, none⟩), .pointer (some ⟨bz, oy, none⟩)] w fun e w' => e = .returned (.tuple #[]) ∧ Hold (fun k => k == bo) w [(bo, .cells (putR cs oo (subF x y)) T (0, 0))] w' := by
  refine calls_H (args := [.pointer (some ⟨bo, oo, none⟩), .pointer (some ⟨bx, ox, none⟩), .pointer (some ⟨bz, oy, none⟩)]) (fun k => k == bo) [(bo, .cells cs T (0, 0))] Tryd.func113 rfl (m := 68) rfl rfl (hold_one h0) ?_
  refine HC.seq ?_
  refine HC.region ?_
  refine HL.val (Val.move rfl) (by decide) ?_
  refine HL.val (Val.nilCheck rfl) (by decide) ?_
  refine HL.val (Val.ixAddrQ (oy + 1) (i := 1) (m := 2) (s := 1) (e := 23) rfl rfl Tryd.underlying81 (by kernel_rfl) (by decide) (by omega)) (by decide) ?_
  refine HL.val (Val.load_one rfl (fun w hw => hw.same h0 0 rfl hy1) Tryd.underlying23 rfl) (by decide) ?_
  refine HL.val (Val.assign rfl) (by decide) ?_
  refine HL.nil ?_
  refine HQ.next ?_
  refine HC.seq ?_
  refine HC.region ?_
  refine HL.val (Val.move rfl) (by decide) ?_
  refine HL.val (Val.nilCheck rfl) (by decide) ?_
  refine HL.val (Val.ixAddrQ (oy) (i := 0) (m := 2) (s := 1) (e := 23) rfl rfl Tryd.underlying81 (by kernel_rfl) (by decide) (by omega)) (by decide) ?_
  refine HL.val (Val.load_one rfl (fun w hw => hw.same h0 0 rfl hy0) Tryd.underlying23 rfl) (by decide) ?_
  refine HL.val (Val.assign rfl) (by decide) ?_
  refine HL.nil ?_
  refine HQ.next ?_
  refine HC.seq ?_
  refine HC.region ?_
  refine HL.val (Val.assign rfl) (by decide) ?_
  refine HL.nil ?_
  refine HQ.next ?_
  refine HC.seq ?_
  refine HC.region ?_
  refine HL.val (Val.assign rfl) (by decide) ?_
  refine HL.nil ?_
  refine HQ.next ?_
  refine HC.seq ?_
  refine HC.region ?_
  refine HL.val (Val.move rfl) (by decide) ?_
  refine HL.val (Val.nilCheck rfl) (by decide) ?_
  refine HL.val (Val.ixAddrQ (ox) (i := 0) (m := 2) (s := 1) (e := 23) rfl rfl Tryd.underlying81 (by kernel_rfl) (by decide) (by omega)) (by decide) ?_
  refine HL.val (Val.load_one rfl (fun w hw => hw.same h0 0 rfl hx0) Tryd.underlying23 rfl) (by decide) ?_
  refine HL.val (Val.move rfl) (by decide) ?_
  refine HL.val (Val.callV (subVI ((x % 18446744073709551616)) ((y % 18446744073709551616)) 0 rfl rfl (by omega) (Nat.mod_lt _ (by decide)) (Nat.mod_lt _ (by decide)) (by decide)) rfl) (by decide) ?_
  have e1 := subE (x := ((x % 18446744073709551616))) (y := ((y % 18446744073709551616))) (c := 0) (Nat.mod_lt _ (by decide)) (Nat.mod_lt _ (by decide)) (by decide)
  generalize subS ((x % 18446744073709551616)) ((y % 18446744073709551616)) 0 = s1 at *
  generalize subD ((x % 18446744073709551616)) ((y % 18446744073709551616)) 0 = d1 at *
  refine HL.val (Val.move rfl) (by decide) ?_
  refine HL.val (Val.extract rfl rfl) (by decide) ?_
  refine HL.val (Val.extract rfl rfl) (by decide) ?_
  refine HL.val (Val.assign rfl) (by decide) ?_
  refine HL.val (Val.assign rfl) (by decide) ?_
  refine HL.nil ?_
  refine HQ.next ?_
  refine HC.seq ?_
  refine HC.region ?_
  refine HL.val (Val.assign rfl) (by decide) ?_
  refine HL.nil ?_
  refine HQ.next ?_
  refine HC.seq ?_
  refine HC.region ?_
  refine HL.val (Val.assign rfl) (by decide) ?_
  refine HL.nil ?_
  refine HQ.next ?_
  refine HC.seq ?_
  refine HC.region ?_
  refine HL.val (Val.move rfl) (by decide) ?_
  refine HL.val (Val.nilCheck rfl) (by decide) ?_
  refine HL.val (Val.ixAddrQ (ox + 1) (i := 1) (m := 2) (s := 1) (e := 23) rfl rfl Tryd.underlying81 (by kernel_rfl) (by decide) (by omega)) (by decide) ?_
  refine HL.val (Val.load_one rfl (fun w hw => hw.same h0 0 rfl hx1) Tryd.underlying23 rfl) (by decide) ?_
  refine HL.val (Val.move rfl) (by decide) ?_
  refine HL.val (Val.move rfl) (by decide) ?_
  refine HL.val (Val.callV (subVI ((x / 18446744073709551616)) ((y / 18446744073709551616)) d1 rfl rfl rfl (hi64 px) (hi64 py) e1.c) rfl) (by decide) ?_
  have e2 := subE (x := ((x / 18446744073709551616))) (y := ((y / 18446744073709551616))) (c := d1) (hi64 px) (hi64 py) e1.c
  generalize subS ((x / 18446744073709551616)) ((y / 18446744073709551616)) d1 = s2 at *
  generalize subD ((x / 18446744073709551616)) ((y / 18446744073709551616)) d1 = d2 at *
  refine HL.val (Val.move rfl) (by decide) ?_
  refine HL.val (Val.extract rfl rfl) (by decide) ?_
  refine HL.val (Val.extract rfl rfl) (by decide) ?_
  refine HL.val (Val.assign rfl) (by decide) ?_
  refine HL.val (Val.assign rfl) (by decide) ?_
  refine HL.nil ?_
  refine HQ.next ?_
  refine HC.seq ?_
  refine HC.region ?_
  refine HL.new (New.alloc (cs := #[.int .u64 ((0 : Nat) : Int)]) (fun _ => rfl)) (by decide) ?_
  intro b1 hb1
  refine HL.nil ?_
  refine HQ.next ?_
  refine HC.seq ?_
  refine HC.region ?_
  refine HL.val (Val.move rfl) (by decide) ?_
  refine HL.callD en129 rfl (fun w hw => lift_one hw (i := 0) rfl (.inl hb1) (cmovI_any b1 0 d2 0 18446744073709551615 _ rfl (by omega) (by omega) e2.c (by decide) (by decide) w (hw.at (i := 0) rfl))) (by decide) ?_
  simp only [List.set_cons_zero]
  refine HL.nil ?_
  refine HQ.next ?_
  refine HC.seq ?_
  refine HC.region ?_
  refine HL.val (Val.assign rfl) (by decide) ?_
  refine HL.nil ?_
  refine HQ.next ?_
  refine HC.seq ?_
  refine HC.region ?_
  refine HL.val (Val.assign rfl) (by decide) ?_
  refine HL.nil ?_
  refine HQ.next ?_
  refine HC.seq ?_
  refine HC.region ?_
  refine HL.val (Val.move rfl) (by decide) ?_
  refine HL.val (Val.load_cell rfl (fun w hw => hw.at (i := 0) rfl) rfl Tryd.underlying23 rfl) (by decide) ?_
  refine HL.val ((Val.andI rfl rfl).as (congrArg (Value.int .u64) (and_sel1 e2.c))) (by decide) ?_
  refine HL.val (Val.callV (addVI s1 ((selN d2 0 1)) 0 rfl rfl (by omega) e1.lt (selN_lt (by decide) (by decide)) (by decide)) rfl) (by decide) ?_
  have e4 := addE (x := s1) (y := ((selN d2 0 1))) (c := 0) e1.lt (selN_lt (by decide) (by decide)) (by decide)
  generalize addS s1 ((selN d2 0 1)) 0 = s4 at *
  generalize addD s1 ((selN d2 0 1)) 0 = d4 at *
  refine HL.val (Val.move rfl) (by decide) ?_
  refine HL.val (Val.extract rfl rfl) (by decide) ?_
  refine HL.val (Val.extract rfl rfl) (by decide) ?_
  refine HL.val (Val.assign rfl) (by decide) ?_
  refine HL.val (Val.assign rfl) (by decide) ?_
  refine HL.nil ?_
  refine HQ.next ?_
  refine HC.seq ?_
  refine HC.region ?_
  refine HL.val (Val.assign rfl) (by decide) ?_
  refine HL.nil ?_
  refine HQ.next ?_
  refine HC.seq ?_
  refine HC.region ?_
  refine HL.val (Val.move rfl) (by decide) ?_
  refine HL.val (Val.load_cell rfl (fun w hw => hw.at (i := 0) rfl) rfl Tryd.underlying23 rfl) (by decide) ?_
  refine HL.val ((Val.andI rfl rfl).as (congrArg (Value.int .u64) (and_selc e2.c))) (by decide) ?_
  refine HL.val (Val.move rfl) (by decide) ?_
  refine HL.val (Val.callV (addVI s2 ((selN d2 0 18446744073709551588)) d4 rfl rfl rfl e2.lt (selN_lt (by decide) (by decide)) e4.c) rfl) (by decide) ?_
  have e5 := addE (x := s2) (y := ((selN d2 0 18446744073709551588))) (c := d4) e2.lt (selN_lt (by decide) (by decide)) e4.c
  generalize addS s2 ((selN d2 0 18446744073709551588)) d4 = s5 at *
  generalize addD s2 ((selN d2 0 18446744073709551588)) d4 = d5 at *
  refine HL.val (Val.move rfl) (by decide) ?_
  refine HL.val (Val.extract rfl rfl) (by decide) ?_
  refine HL.val (Val.extract rfl rfl) (by decide) ?_
  refine HL.val (Val.assign rfl) (by decide) ?_
  refine HL.nil ?_
  refine HQ.next ?_
  refine HC.seq ?_
  refine HC.region ?_
  refine HL.val (Val.move rfl) (by decide) ?_
  refine HL.val (Val.move rfl) (by decide) ?_
  refine HL.val (Val.nilCheck rfl) (by decide) ?_
  refine HL.val (Val.ixAddrQ (oo) (i := 0) (m := 2) (s := 1) (e := 23) rfl rfl Tryd.underlying81 (by kernel_rfl) (by decide) (by omega)) (by decide) ?_
  refine HL.put 1 rfl (Put.cell rfl rfl (by kernel_rfl) ho rfl) (ownB bo) ?_
  simp only [List.set_cons_zero, List.set_cons_succ]
  refine HL.nil ?_
  refine HQ.next ?_
  refine HC.region ?_
  refine HL.val (Val.move rfl) (by decide) ?_
  refine HL.val (Val.move rfl) (by decide) ?_
  refine HL.val (Val.nilCheck rfl) (by decide) ?_
  refine HL.val (Val.ixAddrQ (oo + 1) (i := 1) (m := 2) (s := 1) (e := 23) rfl rfl Tryd.underlying81 (by kernel_rfl) (by decide) (by omega)) (by decide) ?_
  refine HL.put 1 rfl (Put.cell rfl rfl (by kernel_rfl) (by rw [Array.size_setIfInBounds]; exact ho1) rfl) (ownB bo) ?_
  simp only [List.set_cons_zero, List.set_cons_succ]
  refine HL.nil ?_
  refine HQ.end0 rfl (fun w hw => ⟨rfl, ?_⟩)
  have hm := fia_sub px py e1 e2 e4 e5
  have h := hw.pick [1] (by simp)
  simp only [List.filterMap_cons, List.filterMap_nil, List.getElem?_cons_zero, List.getElem?_cons_succ] at h
  rw [hm.1, hm.2] at h
  exact h

set_option maxRecDepth 100000 in
set_option maxHeartbeats 1000000 in
theorem fiaMul_any {bo oo T bx ox x bz oy y : Nat} {cs : Array Value} {w : World} (h0 : w.heap[bo]? = some (.cells cs T (0, 0))) (ho : oo < cs.size) (ho1 : oo + 1 < cs.size) (hx0 : w.cell? ⟨bx, ox, none⟩ = some (.int .u64 ((x % 18446744073709551616 : Nat) : Int))) (hx1 : w.cell? ⟨bx, ox + 1, none⟩ = some (.int .u64 ((x / 18446744073709551616 : Nat) : Int))) (px : x < pf) (hy0 : w.cell? ⟨bz, oy, none⟩ = some (.int .u64 ((y % 18446744073709551616 : Nat) : Int))) (hy1 : w.cell? ⟨bz, oy + 1, none⟩ = some (.int .u64 ((y / 18446744073709551616 : Nat) : Int))) (py : y < pf) :
    Calls Tryd.prog 110 #[.pointer (some ⟨bo, oo, none⟩), .pointer (some ⟨bx, ox, none⟩), .pointer (some ⟨bz, oy, none⟩)] w fun e w' => e = .returned (.tuple #[]) ∧ Hold (fun k => k == bo) w [(bo, .cells (putR cs oo (mm x y)) T (0, 0))] w' := by
  refine calls_H (args := [.pointer (some ⟨bo, oo, none⟩), .pointer (some ⟨bx, ox, none⟩), .pointer (some ⟨bz, oy, none⟩)]) (fun k => k == bo) [(bo, .cells cs T (0, 0))] Tryd.func110 rfl (m := 230) rfl rfl (hold_one h0) ?_
  refine HC.seq ?_
  refine HC.region ?_
  refine HL.val (Val.move rfl) (by decide) ?_
  refine HL.val (Val.nilCheck rfl) (by decide) ?_
  refine HL.val (Val.ixAddrQ (ox + 1) (i := 1) (m := 2) (s := 1) (e := 23) rfl rfl Tryd.underlying81 (by kernel_rfl) (by decide) (by omega)) (by decide) ?_
  refine HL.val (Val.load_one rfl (fun w hw => hw.same h0 0 rfl hx1) Tryd.underlying23 rfl) (by decide) ?_
  refine HL.val (Val.assign rfl) (by decide) ?_
  refine HL.nil ?_
  refine HQ.next ?_
  refine HC.seq ?_
  refine HC.region ?_
  refine HL.val (Val.move rfl) (by decide) ?_
  refine HL.val (Val.nilCheck rfl) (by decide) ?_
  refine HL.val (Val.ixAddrQ (ox) (i := 0) (m := 2) (s := 1) (e := 23) rfl rfl Tryd.underlying81 (by kernel_rfl) (by decide) (by omega)) (by decide) ?_
  refine HL.val (Val.load_one rfl (fun w hw => hw.same h0 0 rfl hx0) Tryd.underlying23 rfl) (by decide) ?_
  refine HL.val (Val.assign rfl) (by decide) ?_
  refine HL.nil ?_
  refine HQ.next ?_
  refine HC.seq ?_
  refine HC.region ?_
  refine HL.val (Val.assign rfl) (by decide) ?_
  refine HL.nil ?_
  refine HQ.next ?_
  refine HC.seq ?_
  refine HC.region ?_
  refine HL.val (Val.assign rfl) (by decide) ?_
  refine HL.nil ?_
  refine HQ.next ?_
  refine HC.seq ?_
  refine HC.region ?_
  refine HL.val (Val.move rfl) (by decide) ?_
  refine HL.val (Val.move rfl) (by decide) ?_
  refine HL.val (Val.nilCheck rfl) (by decide) ?_
  refine HL.val (Val.ixAddrQ (oy + 1) (i := 1) (m := 2) (s := 1) (e := 23) rfl rfl Tryd.underlying81 (by kernel_rfl) (by decide) (by omega)) (by decide) ?_
  refine HL.val (Val.load_one rfl (fun w hw => hw.same h0 0 rfl hy1) Tryd.underlying23 rfl) (by decide) ?_
  refine HL.val (Val.call en130 (mulVI ((x % 18446744073709551616)) ((y / 18446744073709551616)) rfl rfl (Nat.mod_lt _ (by decide)) (hi64 py)) rfl) (by decide) ?_
  have e1 := mulE (x := ((x % 18446744073709551616))) (y := ((y / 18446744073709551616))) (Nat.mod_lt _ (by decide)) (hi64 py)
  generalize ((x % 18446744073709551616)) * ((y / 18446744073709551616)) / 18446744073709551616 = h1 at *
  generalize ((x % 18446744073709551616)) * ((y / 18446744073709551616)) % 18446744073709551616 = l1 at *
  refine HL.val (Val.move rfl) (by decide) ?_
  refine HL.val (Val.extract rfl rfl) (by decide) ?_
  refine HL.val (Val.extract rfl rfl) (by decide) ?_
  refine HL.val (Val.assign rfl) (by decide) ?_
  refine HL.val (Val.assign rfl) (by decide) ?_
  refine HL.nil ?_
  refine HQ.next ?_
  refine HC.seq ?_
  refine HC.region ?_
  refine HL.val (Val.assign rfl) (by decide) ?_
  refine HL.nil ?_
  refine HQ.next ?_
  refine HC.seq ?_
  refine HC.region ?_
  refine HL.val (Val.assign rfl) (by decide) ?_
  refine HL.nil ?_
  refine HQ.next ?_
  refine HC.seq ?_
  refine HC.region ?_
  refine HL.val (Val.move rfl) (by decide) ?_
  refine HL.val (Val.move rfl) (by decide) ?_
  refine HL.val (Val.nilCheck rfl) (by decide) ?_
  refine HL.val (Val.ixAddrQ (oy) (i := 0) (m := 2) (s := 1) (e := 23) rfl rfl Tryd.underlying81 (by kernel_rfl) (by decide) (by omega)) (by decide) ?_
  refine HL.val (Val.load_one rfl (fun w hw => hw.same h0 0 rfl hy0) Tryd.underlying23 rfl) (by decide) ?_
  refine HL.val (Val.call en130 (mulVI ((x % 18446744073709551616)) ((y % 18446744073709551616)) rfl rfl (Nat.mod_lt _ (by decide)) (Nat.mod_lt _ (by decide))) rfl) (by decide) ?_
  have e2 := mulE (x := ((x % 18446744073709551616))) (y := ((y % 18446744073709551616))) (Nat.mod_lt _ (by decide)) (Nat.mod_lt _ (by decide))
  generalize ((x % 18446744073709551616)) * ((y % 18446744073709551616)) / 18446744073709551616 = h2 at *
  generalize ((x % 18446744073709551616)) * ((y % 18446744073709551616)) % 18446744073709551616 = l2 at *
  refine HL.val (Val.move rfl) (by decide) ?_
  refine HL.val (Val.extract rfl rfl) (by decide) ?_
  refine HL.val (Val.extract rfl rfl) (by decide) ?_
  refine HL.val (Val.assign rfl) (by decide) ?_
  refine HL.val (Val.assign rfl) (by decide) ?_
  refine HL.nil ?_
  refine HQ.next ?_
  refine HC.seq ?_
  refine HC.region ?_
  refine HL.val (Val.assign rfl) (by decide) ?_
  refine HL.nil ?_
  refine HQ.next ?_
  refine HC.seq ?_
  refine HC.region ?_
  refine HL.val (Val.assign rfl) (by decide) ?_
  refine HL.nil ?_
  refine HQ.next ?_
  refine HC.seq ?_
  refine HC.region ?_
  refine HL.val (Val.move rfl) (by decide) ?_
  refine HL.val (Val.move rfl) (by decide) ?_
  refine HL.val (Val.callV (addVI h2 l1 0 rfl rfl (by omega) e2.lt e1.lo (by decide)) rfl) (by decide) ?_
  have e3 := addE (x := h2) (y := l1) (c := 0) e2.lt e1.lo (by decide)
  generalize addS h2 l1 0 = s3 at *
  generalize addD h2 l1 0 = d3 at *
  refine HL.val (Val.move rfl) (by decide) ?_
  refine HL.val (Val.extract rfl rfl) (by decide) ?_
  refine HL.val (Val.extract rfl rfl) (by decide) ?_
  refine HL.val (Val.assign rfl) (by decide) ?_
  refine HL.val (Val.assign rfl) (by decide) ?_
  refine HL.nil ?_
  refine HQ.next ?_
  refine HC.seq ?_
  refine HC.region ?_
  refine HL.val (Val.move rfl) (by decide) ?_
  refine HL.val (Val.move rfl) (by decide) ?_
  refine HL.val ((Val.addI rfl rfl).as (congrArg (Value.int .u64) (waddR d3 h1))) (by decide) ?_
  refine HL.val (Val.assign rfl) (by decide) ?_
  refine HL.nil ?_
  refine HQ.next ?_
  refine HC.seq ?_
  refine HC.region ?_
  refine HL.val (Val.assign rfl) (by decide) ?_
  refine HL.nil ?_
  refine HQ.next ?_
  refine HC.seq ?_
  refine HC.region ?_
  refine HL.val (Val.move rfl) (by decide) ?_
  refine HL.val (Val.call en130 (mulVI l2 18446744073709551615 rfl (by omega) e2.lo (by decide)) rfl) (by decide) ?_
  have e4 := mulE (x := l2) (y := 18446744073709551615) e2.lo (by decide)
  generalize l2 * 18446744073709551615 / 18446744073709551616 = h4 at *
  generalize l2 * 18446744073709551615 % 18446744073709551616 = l4 at *
  refine HL.val (Val.move rfl) (by decide) ?_
  refine HL.val (Val.extract rfl rfl) (by decide) ?_
  refine HL.val (Val.extract rfl rfl) (by decide) ?_
  refine HL.val (Val.assign rfl) (by decide) ?_
  refine HL.nil ?_
  refine HQ.next ?_
  refine HC.seq ?_
  refine HC.region ?_
  refine HL.val (Val.assign rfl) (by decide) ?_
  refine HL.nil ?_
  refine HQ.next ?_
  refine HC.seq ?_
  refine HC.region ?_
  refine HL.val (Val.assign rfl) (by decide) ?_
  refine HL.nil ?_
  refine HQ.next ?_
  refine HC.seq ?_
  refine HC.region ?_
  refine HL.val (Val.move rfl) (by decide) ?_
  refine HL.val (Val.call en130 (mulVI l4 18446744073709551588 rfl (by omega) e4.lo (by decide)) rfl) (by decide) ?_
  have e5 := mulE (x := l4) (y := 18446744073709551588) e4.lo (by decide)
  generalize l4 * 18446744073709551588 / 18446744073709551616 = h5 at *
  generalize l4 * 18446744073709551588 % 18446744073709551616 = l5 at *
  refine HL.val (Val.move rfl) (by decide) ?_
  refine HL.val (Val.extract rfl rfl) (by decide) ?_
  refine HL.val (Val.extract rfl rfl) (by decide) ?_
  refine HL.val (Val.assign rfl) (by decide) ?_
  refine HL.val (Val.assign rfl) (by decide) ?_
  refine HL.nil ?_
  refine HQ.next ?_
  refine HC.seq ?_
  refine HC.region ?_
  refine HL.val (Val.assign rfl) (by decide) ?_
  refine HL.nil ?_
  refine HQ.next ?_
  refine HC.seq ?_
  refine HC.region ?_
  refine HL.val (Val.move rfl) (by decide) ?_
  refine HL.val (Val.move rfl) (by decide) ?_
  refine HL.val (Val.callV (addVI l2 l4 0 rfl rfl (by omega) e2.lo e4.lo (by decide)) rfl) (by decide) ?_
  have e6 := addE (x := l2) (y := l4) (c := 0) e2.lo e4.lo (by decide)
  generalize addS l2 l4 0 = s6 at *
  generalize addD l2 l4 0 = d6 at *
  refine HL.val (Val.move rfl) (by decide) ?_
  refine HL.val (Val.extract rfl rfl) (by decide) ?_
  refine HL.val (Val.extract rfl rfl) (by decide) ?_
  refine HL.val (Val.assign rfl) (by decide) ?_
  refine HL.nil ?_
  refine HQ.next ?_
  refine HC.seq ?_
  refine HC.region ?_
  refine HL.val (Val.assign rfl) (by decide) ?_
  refine HL.nil ?_
  refine HQ.next ?_
  refine HC.seq ?_
  refine HC.region ?_
  refine HL.val (Val.assign rfl) (by decide) ?_
  refine HL.nil ?_
  refine HQ.next ?_
  refine HC.seq ?_
  refine HC.region ?_
  refine HL.val (Val.move rfl) (by decide) ?_
  refine HL.val (Val.move rfl) (by decide) ?_
  refine HL.val (Val.move rfl) (by decide) ?_
  refine HL.val (Val.callV (addVI s3 l5 d6 rfl rfl rfl e3.lt e5.lo e6.c) rfl) (by decide) ?_
  have e7 := addE (x := s3) (y := l5) (c := d6) e3.lt e5.lo e6.c
  generalize addS s3 l5 d6 = s7 at *
  generalize addD s3 l5 d6 = d7 at *
  refine HL.val (Val.move rfl) (by decide) ?_
  refine HL.val (Val.extract rfl rfl) (by decide) ?_
  refine HL.val (Val.extract rfl rfl) (by decide) ?_
  refine HL.val (Val.assign rfl) (by decide) ?_
  refine HL.val (Val.assign rfl) (by decide) ?_
  refine HL.nil ?_
  refine HQ.next ?_
  refine HC.seq ?_
  refine HC.region ?_
  refine HL.val (Val.assign rfl) (by decide) ?_
  refine HL.nil ?_
  refine HQ.next ?_
  refine HC.seq ?_
  refine HC.region ?_
  refine HL.val (Val.assign rfl) (by decide) ?_
  refine HL.nil ?_
  refine HQ.next ?_
  refine HC.seq ?_
  refine HC.region ?_
  refine HL.val (Val.move rfl) (by decide) ?_
  refine HL.val (Val.move rfl) (by decide) ?_
  refine HL.val (Val.move rfl) (by decide) ?_
  refine HL.val (Val.callV (addVI ((adWr d3 h1)) h5 d7 rfl rfl rfl (adWr_lt _ _) e5.lt e7.c) rfl) (by decide) ?_
  have e8 := addE (x := ((adWr d3 h1))) (y := h5) (c := d7) (adWr_lt _ _) e5.lt e7.c
  generalize addS ((adWr d3 h1)) h5 d7 = s8 at *
  generalize addD ((adWr d3 h1)) h5 d7 = d8 at *
  refine HL.val (Val.move rfl) (by decide) ?_
  refine HL.val (Val.extract rfl rfl) (by decide) ?_
  refine HL.val (Val.extract rfl rfl) (by decide) ?_
  refine HL.val (Val.assign rfl) (by decide) ?_
  refine HL.val (Val.assign rfl) (by decide) ?_
  refine HL.nil ?_
  refine HQ.next ?_
  refine HC.seq ?_
  refine HC.region ?_
  refine HL.val (Val.assign rfl) (by decide) ?_
  refine HL.nil ?_
  refine HQ.next ?_
  refine HC.seq ?_
  refine HC.region ?_
  refine HL.val (Val.assign rfl) (by decide) ?_
  refine HL.nil ?_
  refine HQ.next ?_
  refine HC.seq ?_
  refine HC.region ?_
  refine HL.val (Val.move rfl) (by decide) ?_
  refine HL.val (Val.move rfl) (by decide) ?_
  refine HL.val (Val.nilCheck rfl) (by decide) ?_
  refine HL.val (Val.ixAddrQ (oy + 1) (i := 1) (m := 2) (s := 1) (e := 23) rfl rfl Tryd.underlying81 (by kernel_rfl) (by decide) (by omega)) (by decide) ?_
  refine HL.val (Val.load_one rfl (fun w hw => hw.same h0 0 rfl hy1) Tryd.underlying23 rfl) (by decide) ?_
  refine HL.val (Val.call en130 (mulVI ((x / 18446744073709551616)) ((y / 18446744073709551616)) rfl rfl (hi64 px) (hi64 py)) rfl) (by decide) ?_
  have e9 := mulE (x := ((x / 18446744073709551616))) (y := ((y / 18446744073709551616))) (hi64 px) (hi64 py)
  generalize ((x / 18446744073709551616)) * ((y / 18446744073709551616)) / 18446744073709551616 = h9 at *
  generalize ((x / 18446744073709551616)) * ((y / 18446744073709551616)) % 18446744073709551616 = l9 at *
  refine HL.val (Val.move rfl) (by decide) ?_
  refine HL.val (Val.extract rfl rfl) (by decide) ?_
  refine HL.val (Val.extract rfl rfl) (by decide) ?_
  refine HL.val (Val.assign rfl) (by decide) ?_
  refine HL.val (Val.assign rfl) (by decide) ?_
  refine HL.nil ?_
  refine HQ.next ?_
  refine HC.seq ?_
  refine HC.region ?_
  refine HL.val (Val.assign rfl) (by decide) ?_
  refine HL.nil ?_
  refine HQ.next ?_
  refine HC.seq ?_
  refine HC.region ?_
  refine HL.val (Val.assign rfl) (by decide) ?_
  refine HL.nil ?_
  refine HQ.next ?_
  refine HC.seq ?_
  refine HC.region ?_
  refine HL.val (Val.move rfl) (by decide) ?_
  refine HL.val (Val.move rfl) (by decide) ?_
  refine HL.val (Val.nilCheck rfl) (by decide) ?_
  refine HL.val (Val.ixAddrQ (oy) (i := 0) (m := 2) (s := 1) (e := 23) rfl rfl Tryd.underlying81 (by kernel_rfl) (by decide) (by omega)) (by decide) ?_
  refine HL.val (Val.load_one rfl (fun w hw => hw.same h0 0 rfl hy0) Tryd.underlying23 rfl) (by decide) ?_
  refine HL.val (Val.call en130 (mulVI ((x / 18446744073709551616)) ((y % 18446744073709551616)) rfl rfl (hi64 px) (Nat.mod_lt _ (by decide))) rfl) (by decide) ?_
  have e10 := mulE (x := ((x / 18446744073709551616))) (y := ((y % 18446744073709551616))) (hi64 px) (Nat.mod_lt _ (by decide))
  generalize ((x / 18446744073709551616)) * ((y % 18446744073709551616)) / 18446744073709551616 = h10 at *
  generalize ((x / 18446744073709551616)) * ((y % 18446744073709551616)) % 18446744073709551616 = l10 at *
  refine HL.val (Val.move rfl) (by decide) ?_
  refine HL.val (Val.extract rfl rfl) (by decide) ?_
  refine HL.val (Val.extract rfl rfl) (by decide) ?_
  refine HL.val (Val.assign rfl) (by decide) ?_
  refine HL.val (Val.assign rfl) (by decide) ?_
  refine HL.nil ?_
  refine HQ.next ?_
  refine HC.seq ?_
  refine HC.region ?_
  refine HL.val (Val.assign rfl) (by decide) ?_
  refine HL.nil ?_
  refine HQ.next ?_
  refine HC.seq ?_
  refine HC.region ?_
  refine HL.val (Val.assign rfl) (by decide) ?_
  refine HL.nil ?_
  refine HQ.next ?_
  refine HC.seq ?_
  refine HC.region ?_
  refine HL.val (Val.move rfl) (by decide) ?_
  refine HL.val (Val.move rfl) (by decide) ?_
  refine HL.val (Val.callV (addVI h10 l9 0 rfl rfl (by omega) e10.lt e9.lo (by decide)) rfl) (by decide) ?_
  have e11 := addE (x := h10) (y := l9) (c := 0) e10.lt e9.lo (by decide)
  generalize addS h10 l9 0 = s11 at *
  generalize addD h10 l9 0 = d11 at *
  refine HL.val (Val.move rfl) (by decide) ?_
  refine HL.val (Val.extract rfl rfl) (by decide) ?_
  refine HL.val (Val.extract rfl rfl) (by decide) ?_
  refine HL.val (Val.assign rfl) (by decide) ?_
  refine HL.val (Val.assign rfl) (by decide) ?_
  refine HL.nil ?_
  refine HQ.next ?_
  refine HC.seq ?_
  refine HC.region ?_
  refine HL.val (Val.move rfl) (by decide) ?_
  refine HL.val (Val.move rfl) (by decide) ?_
  refine HL.val ((Val.addI rfl rfl).as (congrArg (Value.int .u64) (waddR d11 h9))) (by decide) ?_
  refine HL.val (Val.assign rfl) (by decide) ?_
  refine HL.nil ?_
  refine HQ.next ?_
  refine HC.seq ?_
  refine HC.region ?_
  refine HL.val (Val.assign rfl) (by decide) ?_
  refine HL.nil ?_
  refine HQ.next ?_
  refine HC.seq ?_
  refine HC.region ?_
  refine HL.val (Val.assign rfl) (by decide) ?_
  refine HL.nil ?_
  refine HQ.next ?_
  refine HC.seq ?_
  refine HC.region ?_
  refine HL.val (Val.move rfl) (by decide) ?_
  refine HL.val (Val.move rfl) (by decide) ?_
  refine HL.val (Val.callV (addVI s7 l10 0 rfl rfl (by omega) e7.lt e10.lo (by decide)) rfl) (by decide) ?_
  have e12 := addE (x := s7) (y := l10) (c := 0) e7.lt e10.lo (by decide)
  generalize addS s7 l10 0 = s12 at *
  generalize addD s7 l10 0 = d12 at *
  refine HL.val (Val.move rfl) (by decide) ?_
  refine HL.val (Val.extract rfl rfl) (by decide) ?_
  refine HL.val (Val.extract rfl rfl) (by decide) ?_
  refine HL.val (Val.assign rfl) (by decide) ?_
  refine HL.val (Val.assign rfl) (by decide) ?_
  refine HL.nil ?_
  refine HQ.next ?_
  refine HC.seq ?_
  refine HC.region ?_
  refine HL.val (Val.assign rfl) (by decide) ?_
  refine HL.nil ?_
  refine HQ.next ?_
  refine HC.seq ?_
  refine HC.region ?_
  refine HL.val (Val.assign rfl) (by decide) ?_
  refine HL.nil ?_
  refine HQ.next ?_
  refine HC.seq ?_
  refine HC.region ?_
  refine HL.val (Val.move rfl) (by decide) ?_
  refine HL.val (Val.move rfl) (by decide) ?_
  refine HL.val (Val.move rfl) (by decide) ?_
  refine HL.val (Val.callV (addVI s8 s11 d12 rfl rfl rfl e8.lt e11.lt e12.c) rfl) (by decide) ?_
  have e13 := addE (x := s8) (y := s11) (c := d12) e8.lt e11.lt e12.c
  generalize addS s8 s11 d12 = s13 at *
  generalize addD s8 s11 d12 = d13 at *
  refine HL.val (Val.move rfl) (by decide) ?_
  refine HL.val (Val.extract rfl rfl) (by decide) ?_
  refine HL.val (Val.extract rfl rfl) (by decide) ?_
  refine HL.val (Val.assign rfl) (by decide) ?_
  refine HL.val (Val.assign rfl) (by decide) ?_
  refine HL.nil ?_
  refine HQ.next ?_
  refine HC.seq ?_
  refine HC.region ?_
  refine HL.val (Val.assign rfl) (by decide) ?_
  refine HL.nil ?_
  refine HQ.next ?_
  refine HC.seq ?_
  refine HC.region ?_
  refine HL.val (Val.assign rfl) (by decide) ?_
  refine HL.nil ?_
  refine HQ.next ?_
  refine HC.seq ?_
  refine HC.region ?_
  refine HL.val (Val.move rfl) (by decide) ?_
  refine HL.val (Val.move rfl) (by decide) ?_
  refine HL.val (Val.move rfl) (by decide) ?_
  refine HL.val (Val.callV (addVI d8 ((adWr d11 h9)) d13 rfl rfl rfl e8.clt (adWr_lt _ _) e13.c) rfl) (by decide) ?_
  have e14 := addE (x := d8) (y := ((adWr d11 h9))) (c := d13) e8.clt (adWr_lt _ _) e13.c
  generalize addS d8 ((adWr d11 h9)) d13 = s14 at *
  generalize addD d8 ((adWr d11 h9)) d13 = d14 at *
  refine HL.val (Val.move rfl) (by decide) ?_
  refine HL.val (Val.extract rfl rfl) (by decide) ?_
  refine HL.val (Val.extract rfl rfl) (by decide) ?_
  refine HL.val (Val.assign rfl) (by decide) ?_
  refine HL.val (Val.assign rfl) (by decide) ?_
  refine HL.nil ?_
  refine HQ.next ?_
  refine HC.seq ?_
  refine HC.region ?_
  refine HL.val (Val.assign rfl) (by decide) ?_
  refine HL.nil ?_
  refine HQ.next ?_
  refine HC.seq ?_
  refine HC.region ?_
  refine HL.val (Val.move rfl) (by decide) ?_
  refine HL.val (Val.call en130 (mulVI s12 18446744073709551615 rfl (by omega) e12.lt (by decide)) rfl) (by decide) ?_
  have e15 := mulE (x := s12) (y := 18446744073709551615) e12.lt (by decide)
  generalize s12 * 18446744073709551615 / 18446744073709551616 = h15 at *
  generalize s12 * 18446744073709551615 % 18446744073709551616 = l15 at *
  refine HL.val (Val.move rfl) (by decide) ?_
  refine HL.val (Val.extract rfl rfl) (by decide) ?_
  refine HL.val (Val.extract rfl rfl) (by decide) ?_
  refine HL.val (Val.assign rfl) (by decide) ?_
  refine HL.nil ?_
  refine HQ.next ?_
  refine HC.seq ?_
  refine HC.region ?_
  refine HL.val (Val.assign rfl) (by decide) ?_
  refine HL.nil ?_
  refine HQ.next ?_
  refine HC.seq ?_
  refine HC.region ?_
  refine HL.val (Val.assign rfl) (by decide) ?_
  refine HL.nil ?_
  refine HQ.next ?_
  refine HC.seq ?_
  refine HC.region ?_
  refine HL.val (Val.move rfl) (by decide) ?_
  refine HL.val (Val.call en130 (mulVI l15 18446744073709551588 rfl (by omega) e15.lo (by decide)) rfl) (by decide) ?_
  have e16 := mulE (x := l15) (y := 18446744073709551588) e15.lo (by decide)
  generalize l15 * 18446744073709551588 / 18446744073709551616 = h16 at *
  generalize l15 * 18446744073709551588 % 18446744073709551616 = l16 at *
  refine HL.val (Val.move rfl) (by decide) ?_
  refine HL.val (Val.extract rfl rfl) (by decide) ?_
  refine HL.val (Val.extract rfl rfl) (by decide) ?_
  refine HL.val (Val.assign rfl) (by decide) ?_
  refine HL.val (Val.assign rfl) (by decide) ?_
  refine HL.nil ?_
  refine HQ.next ?_
  refine HC.seq ?_
  refine HC.region ?_
  refine HL.val (Val.assign rfl) (by decide) ?_
  refine HL.nil ?_
  refine HQ.next ?_
  refine HC.seq ?_
  refine HC.region ?_
  refine HL.val (Val.move rfl) (by decide) ?_
  refine HL.val (Val.move rfl) (by decide) ?_
  refine HL.val (Val.callV (addVI s12 l15 0 rfl rfl (by omega) e12.lt e15.lo (by decide)) rfl) (by decide) ?_
  have e17 := addE (x := s12) (y := l15) (c := 0) e12.lt e15.lo (by decide)
  generalize addS s12 l15 0 = s17 at *
  generalize addD s12 l15 0 = d17 at *
  refine HL.val (Val.move rfl) (by decide) ?_
  refine HL.val (Val.extract rfl rfl) (by decide) ?_
  refine HL.val (Val.extract rfl rfl) (by decide) ?_
  refine HL.val (Val.assign rfl) (by decide) ?_
  refine HL.nil ?_
  refine HQ.next ?_
  refine HC.seq ?_
  refine HC.region ?_
  refine HL.val (Val.assign rfl) (by decide) ?_
  refine HL.nil ?_
  refine HQ.next ?_
  refine HC.seq ?_
  refine HC.region ?_
  refine HL.val (Val.assign rfl) (by decide) ?_
  refine HL.nil ?_
  refine HQ.next ?_
  refine HC.seq ?_
  refine HC.region ?_
  refine HL.val (Val.move rfl) (by decide) ?_
  refine HL.val (Val.move rfl) (by decide) ?_
  refine HL.val (Val.move rfl) (by decide) ?_
  refine HL.val (Val.callV (addVI s13 l16 d17 rfl rfl rfl e13.lt e16.lo e17.c) rfl) (by decide) ?_
  have e18 := addE (x := s13) (y := l16) (c := d17) e13.lt e16.lo e17.c
  generalize addS s13 l16 d17 = s18 at *
  generalize addD s13 l16 d17 = d18 at *
  refine HL.val (Val.move rfl) (by decide) ?_
  refine HL.val (Val.extract rfl rfl) (by decide) ?_
  refine HL.val (Val.extract rfl rfl) (by decide) ?_
  refine HL.val (Val.assign rfl) (by decide) ?_
  refine HL.val (Val.assign rfl) (by decide) ?_
  refine HL.nil ?_
  refine HQ.next ?_
  refine HC.seq ?_
  refine HC.region ?_
  refine HL.val (Val.assign rfl) (by decide) ?_
  refine HL.nil ?_
  refine HQ.next ?_
  refine HC.seq ?_
  refine HC.region ?_
  refine HL.val (Val.assign rfl) (by decide) ?_
  refine HL.nil ?_
  refine HQ.next ?_
  refine HC.seq ?_
  refine HC.region ?_
  refine HL.val (Val.move rfl) (by decide) ?_
  refine HL.val (Val.move rfl) (by decide) ?_
  refine HL.val (Val.move rfl) (by decide) ?_
  refine HL.val (Val.callV (addVI s14 h16 d18 rfl rfl rfl e14.lt e16.lt e18.c) rfl) (by decide) ?_
  have e19 := addE (x := s14) (y := h16) (c := d18) e14.lt e16.lt e18.c
  generalize addS s14 h16 d18 = s19 at *
  generalize addD s14 h16 d18 = d19 at *
  refine HL.val (Val.move rfl) (by decide) ?_
  refine HL.val (Val.extract rfl rfl) (by decide) ?_
  refine HL.val (Val.extract rfl rfl) (by decide) ?_
  refine HL.val (Val.assign rfl) (by decide) ?_
  refine HL.val (Val.assign rfl) (by decide) ?_
  refine HL.nil ?_
  refine HQ.next ?_
  refine HC.seq ?_
  refine HC.region ?_
  refine HL.val (Val.move rfl) (by decide) ?_
  refine HL.val (Val.move rfl) (by decide) ?_
  refine HL.val ((Val.addI rfl rfl).as (congrArg (Value.int .u64) (waddR d19 d14))) (by decide) ?_
  refine HL.val (Val.assign rfl) (by decide) ?_
  refine HL.nil ?_
  refine HQ.next ?_
  refine HC.seq ?_
  refine HC.region ?_
  refine HL.val (Val.assign rfl) (by decide) ?_
  refine HL.nil ?_
  refine HQ.next ?_
  refine HC.seq ?_
  refine HC.region ?_
  refine HL.val (Val.assign rfl) (by decide) ?_
  refine HL.nil ?_
  refine HQ.next ?_
  refine HC.seq ?_
  refine HC.region ?_
  refine HL.val (Val.move rfl) (by decide) ?_
  refine HL.val (Val.callV (subVI s18 1 0 rfl (by omega) (by omega) e18.lt (by decide) (by decide)) rfl) (by decide) ?_
  have e20 := subE (x := s18) (y := 1) (c := 0) e18.lt (by decide) (by decide)
  generalize subS s18 1 0 = s20 at *
  generalize subD s18 1 0 = d20 at *
  refine HL.val (Val.move rfl) (by decide) ?_
  refine HL.val (Val.extract rfl rfl) (by decide) ?_
  refine HL.val (Val.extract rfl rfl) (by decide) ?_
  refine HL.val (Val.assign rfl) (by decide) ?_
  refine HL.val (Val.assign rfl) (by decide) ?_
  refine HL.nil ?_
  refine HQ.next ?_
  refine HC.seq ?_
  refine HC.region ?_
  refine HL.val (Val.assign rfl) (by decide) ?_
  refine HL.nil ?_
  refine HQ.next ?_
  refine HC.seq ?_
  refine HC.region ?_
  refine HL.val (Val.assign rfl) (by decide) ?_
  refine HL.nil ?_
  refine HQ.next ?_
  refine HC.seq ?_
  refine HC.region ?_
  refine HL.val (Val.move rfl) (by decide) ?_
  refine HL.val (Val.move rfl) (by decide) ?_
  refine HL.val (Val.callV (subVI s19 18446744073709551588 d20 rfl (by omega) rfl e19.lt (by decide) e20.c) rfl) (by decide) ?_
  have e21 := subE (x := s19) (y := 18446744073709551588) (c := d20) e19.lt (by decide) e20.c
  generalize subS s19 18446744073709551588 d20 = s21 at *
  generalize subD s19 18446744073709551588 d20 = d21 at *
  refine HL.val (Val.move rfl) (by decide) ?_
  refine HL.val (Val.extract rfl rfl) (by decide) ?_
  refine HL.val (Val.extract rfl rfl) (by decide) ?_
  refine HL.val (Val.assign rfl) (by decide) ?_
  refine HL.val (Val.assign rfl) (by decide) ?_
  refine HL.nil ?_
  refine HQ.next ?_
  refine HC.seq ?_
  refine HC.region ?_
  refine HL.val (Val.assign rfl) (by decide) ?_
  refine HL.nil ?_
  refine HQ.next ?_
  refine HC.seq ?_
  refine HC.region ?_
  refine HL.val (Val.move rfl) (by decide) ?_
  refine HL.val (Val.move rfl) (by decide) ?_
  refine HL.val (Val.callV (subVI ((adWr d19 d14)) 0 d21 rfl (by omega) rfl (adWr_lt _ _) (by decide) e21.c) rfl) (by decide) ?_
  have e22 := subE (x := ((adWr d19 d14))) (y := 0) (c := d21) (adWr_lt _ _) (by decide) e21.c
  generalize subS ((adWr d19 d14)) 0 d21 = s22 at *
  generalize subD ((adWr d19 d14)) 0 d21 = d22 at *
  refine HL.val (Val.move rfl) (by decide) ?_
  refine HL.val (Val.extract rfl rfl) (by decide) ?_
  refine HL.val (Val.extract rfl rfl) (by decide) ?_
  refine HL.val (Val.assign rfl) (by decide) ?_
  refine HL.nil ?_
  refine HQ.next ?_
  refine HC.seq ?_
  refine HC.region ?_
  refine HL.new (New.alloc (cs := #[.int .u64 ((0 : Nat) : Int)]) (fun _ => rfl)) (by decide) ?_
  intro b1 hb1
  refine HL.nil ?_
  refine HQ.next ?_
  refine HC.seq ?_
  refine HC.region ?_
  refine HL.val (Val.move rfl) (by decide) ?_
  refine HL.val (Val.move rfl) (by decide) ?_
  refine HL.val (Val.move rfl) (by decide) ?_
  refine HL.callD en129 rfl (fun w hw => lift_one hw (i := 0) rfl (.inl hb1) (cmovI_any b1 0 d22 s20 s18 _ rfl rfl rfl e22.c e20.lt e18.lt w (hw.at (i := 0) rfl))) (by decide) ?_
  simp only [List.set_cons_zero]
  refine HL.nil ?_
  refine HQ.next ?_
  refine HC.seq ?_
  refine HC.region ?_
  refine HL.new (New.alloc (cs := #[.int .u64 ((0 : Nat) : Int)]) (fun _ => rfl)) (by decide) ?_
  intro b2 hb2
  refine HL.nil ?_
  refine HQ.next ?_
  refine HC.seq ?_
  refine HC.region ?_
  refine HL.val (Val.move rfl) (by decide) ?_
  refine HL.val (Val.move rfl) (by decide) ?_
  refine HL.val (Val.move rfl) (by decide) ?_
  refine HL.callD en129 rfl (fun w hw => lift_one hw (i := 0) rfl (.inl hb2) (cmovI_any b2 0 d22 s21 s19 _ rfl rfl rfl e22.c e21.lt e19.lt w (hw.at (i := 0) rfl))) (by decide) ?_
  simp only [List.set_cons_zero]
  refine HL.nil ?_
  refine HQ.next ?_
  refine HC.seq ?_
  refine HC.draw0 4 (by kernel_rfl) (by kernel_rfl) ?_
  simp only [List.take, List.drop]
  refine HV.val (Val.move rfl) (by decide) ?_
  refine HV.val (Val.load_cell rfl (fun w hw => hw.at (i := 1) rfl) rfl Tryd.underlying23 rfl) (by decide) ?_
  refine HV.val (Val.nilCheck rfl) (by decide) ?_
  refine HV.val (Val.ixAddrQ (oo) (i := 0) (m := 2) (s := 1) (e := 23) rfl rfl Tryd.underlying81 (by kernel_rfl) (by decide) (by omega)) (by decide) ?_
  refine HV.tail0 ?_
  refine HL.put 2 rfl (Put.cell rfl rfl (by kernel_rfl) ho rfl) (ownB bo) ?_
  simp only [List.set_cons_zero, List.set_cons_succ]
  refine HL.nil ?_
  refine HQ.next ?_
  refine HC.draw0 4 (by kernel_rfl) (by kernel_rfl) ?_
  simp only [List.take, List.drop]
  refine HV.val (Val.move rfl) (by decide) ?_
  refine HV.val (Val.load_cell rfl (fun w hw => hw.at (i := 0) rfl) rfl Tryd.underlying23 rfl) (by decide) ?_
  refine HV.val (Val.nilCheck rfl) (by decide) ?_
  refine HV.val (Val.ixAddrQ (oo + 1) (i := 1) (m := 2) (s := 1) (e := 23) rfl rfl Tryd.underlying81 (by kernel_rfl) (by decide) (by omega)) (by decide) ?_
  refine HV.tail0 ?_
  refine HL.put 2 rfl (Put.cell rfl rfl (by kernel_rfl) (by rw [Array.size_setIfInBounds]; exact ho1) rfl) (ownB bo) ?_
  simp only [List.set_cons_zero, List.set_cons_succ]
  refine HL.nil ?_
  refine HQ.end0 rfl (fun w hw => ⟨rfl, ?_⟩)
  have hm := fia_mul px py e1 e2 e3 e4 e5 e6 e7 e8 e9 e10 e11 e12 e13 e14 e15 e16 e17 e18 e19 e20 e21 e22
  have h := hw.pick [2] (by simp)
  simp only [List.filterMap_cons, List.filterMap_nil, List.getElem?_cons_zero, List.getElem?_cons_succ] at h
  rw [hm.1, hm.2] at h
  exact h

set_option maxRecDepth 100000 in
set_option maxHeartbeats 1000000 in
theorem fiaSqr_any {bo oo T bx ox x : Nat} {cs : Array Value} {w : World} (h0 : w.heap[bo]? = some (.cells cs T (0, 0))) (ho : oo < cs.size) (ho1 : oo + 1 < cs.size) (hx0 : w.cell? ⟨bx, ox, none⟩ = some (.int .u64 ((x % 18446744073709551616 : Nat) : Int))) (hx1 : w.cell? ⟨bx, ox + 1, none⟩ = some (.int .u64 ((x / 18446744073709551616 : Nat) : Int))) (px : x < pf) :
    Calls Tryd.prog 114 #[.pointer (some ⟨bo, oo, none⟩), .pointer (some ⟨bx, ox, none⟩)] w fun e w' => e = .returned (.tuple #[]) ∧ Hold (fun k => k == bo) w [(bo, .cells (putR cs oo (mm x x)) T (0, 0))] w' := by
  refine calls_H (args := [.pointer (some ⟨bo, oo, none⟩), .pointer (some ⟨bx, ox, none⟩)]) (fun k => k == bo) [(bo, .cells cs T (0, 0))] Tryd.func114 rfl (m := 228) rfl rfl (hold_one h0) ?_
  refine HC.seq ?_
  refine HC.region ?_
  refine HL.val (Val.move rfl) (by decide) ?_
  refine HL.val (Val.nilCheck rfl) (by decide) ?_
  refine HL.val (Val.ixAddrQ (ox + 1) (i := 1) (m := 2) (s := 1) (e := 23) rfl rfl Tryd.underlying81 (by kernel_rfl) (by decide) (by omega)) (by decide) ?_
  refine HL.val (Val.load_one rfl (fun w hw => hw.same h0 0 rfl hx1) Tryd.underlying23 rfl) (by decide) ?_
  refine HL.val (Val.assign rfl) (by decide) ?_
  refine HL.nil ?_
  refine HQ.next ?_
  refine HC.seq ?_
  refine HC.region ?_
  refine HL.val (Val.move rfl) (by decide) ?_
  refine HL.val (Val.nilCheck rfl) (by decide) ?_
  refine HL.val (Val.ixAddrQ (ox) (i := 0) (m := 2) (s := 1) (e := 23) rfl rfl Tryd.underlying81 (by kernel_rfl) (by decide) (by omega)) (by decide) ?_
  refine HL.val (Val.load_one rfl (fun w hw => hw.same h0 0 rfl hx0) Tryd.underlying23 rfl) (by decide) ?_
  refine HL.val (Val.assign rfl) (by decide) ?_
  refine HL.nil ?_
  refine HQ.next ?_
  refine HC.seq ?_
  refine HC.region ?_
  refine HL.val (Val.assign rfl) (by decide) ?_
  refine HL.nil ?_
  refine HQ.next ?_
  refine HC.seq ?_
  refine HC.region ?_
  refine HL.val (Val.assign rfl) (by decide) ?_
  refine HL.nil ?_
  refine HQ.next ?_
  refine HC.seq ?_
  refine HC.region ?_
  refine HL.val (Val.move rfl) (by decide) ?_
  refine HL.val (Val.move rfl) (by decide) ?_
  refine HL.val (Val.nilCheck rfl) (by decide) ?_
  refine HL.val (Val.ixAddrQ (ox + 1) (i := 1) (m := 2) (s := 1) (e := 23) rfl rfl Tryd.underlying81 (by kernel_rfl) (by decide) (by omega)) (by decide) ?_
  refine HL.val (Val.load_one rfl (fun w hw => hw.same h0 0 rfl hx1) Tryd.underlying23 rfl) (by decide) ?_
  refine HL.val (Val.call en130 (mulVI ((x % 18446744073709551616)) ((x / 18446744073709551616)) rfl rfl (Nat.mod_lt _ (by decide)) (hi64 px)) rfl) (by decide) ?_
  have e1 := mulE (x := ((x % 18446744073709551616))) (y := ((x / 18446744073709551616))) (Nat.mod_lt _ (by decide)) (hi64 px)
  generalize ((x % 18446744073709551616)) * ((x / 18446744073709551616)) / 18446744073709551616 = h1 at *
  generalize ((x % 18446744073709551616)) * ((x / 18446744073709551616)) % 18446744073709551616 = l1 at *
  refine HL.val (Val.move rfl) (by decide) ?_
  refine HL.val (Val.extract rfl rfl) (by decide) ?_
  refine HL.val (Val.extract rfl rfl) (by decide) ?_
  refine HL.val (Val.assign rfl) (by decide) ?_
  refine HL.val (Val.assign rfl) (by decide) ?_
  refine HL.nil ?_
  refine HQ.next ?_
  refine HC.seq ?_
  refine HC.region ?_
  refine HL.val (Val.assign rfl) (by decide) ?_
  refine HL.nil ?_
  refine HQ.next ?_
  refine HC.seq ?_
  refine HC.region ?_
  refine HL.val (Val.assign rfl) (by decide) ?_
  refine HL.nil ?_
  refine HQ.next ?_
  refine HC.seq ?_
  refine HC.region ?_
  refine HL.val (Val.move rfl) (by decide) ?_
  refine HL.val (Val.move rfl) (by decide) ?_
  refine HL.val (Val.nilCheck rfl) (by decide) ?_
  refine HL.val (Val.ixAddrQ (ox) (i := 0) (m := 2) (s := 1) (e := 23) rfl rfl Tryd.underlying81 (by kernel_rfl) (by decide) (by omega)) (by decide) ?_
  refine HL.val (Val.load_one rfl (fun w hw => hw.same h0 0 rfl hx0) Tryd.underlying23 rfl) (by decide) ?_
  refine HL.val (Val.call en130 (mulVI ((x % 18446744073709551616)) ((x % 18446744073709551616)) rfl rfl (Nat.mod_lt _ (by decide)) (Nat.mod_lt _ (by decide))) rfl) (by decide) ?_
  have e2 := mulE (x := ((x % 18446744073709551616))) (y := ((x % 18446744073709551616))) (Nat.mod_lt _ (by decide)) (Nat.mod_lt _ (by decide))
  generalize ((x % 18446744073709551616)) * ((x % 18446744073709551616)) / 18446744073709551616 = h2 at *
  generalize ((x % 18446744073709551616)) * ((x % 18446744073709551616)) % 18446744073709551616 = l2 at *
  refine HL.val (Val.move rfl) (by decide) ?_
  refine HL.val (Val.extract rfl rfl) (by decide) ?_
  refine HL.val (Val.extract rfl rfl) (by decide) ?_
  refine HL.val (Val.assign rfl) (by decide) ?_
  refine HL.val (Val.assign rfl) (by decide) ?_
  refine HL.nil ?_
  refine HQ.next ?_
  refine HC.seq ?_
  refine HC.region ?_
  refine HL.val (Val.assign rfl) (by decide) ?_
  refine HL.nil ?_
  refine HQ.next ?_
  refine HC.seq ?_
  refine HC.region ?_
  refine HL.val (Val.assign rfl) (by decide) ?_
  refine HL.nil ?_
  refine HQ.next ?_
  refine HC.seq ?_
  refine HC.region ?_
  refine HL.val (Val.move rfl) (by decide) ?_
  refine HL.val (Val.move rfl) (by decide) ?_
  refine HL.val (Val.callV (addVI h2 l1 0 rfl rfl (by omega) e2.lt e1.lo (by decide)) rfl) (by decide) ?_
  have e3 := addE (x := h2) (y := l1) (c := 0) e2.lt e1.lo (by decide)
  generalize addS h2 l1 0 = s3 at *
  generalize addD h2 l1 0 = d3 at *
  refine HL.val (Val.move rfl) (by decide) ?_
  refine HL.val (Val.extract rfl rfl) (by decide) ?_
  refine HL.val (Val.extract rfl rfl) (by decide) ?_
  refine HL.val (Val.assign rfl) (by decide) ?_
  refine HL.val (Val.assign rfl) (by decide) ?_
  refine HL.nil ?_
  refine HQ.next ?_
  refine HC.seq ?_
  refine HC.region ?_
  refine HL.val (Val.move rfl) (by decide) ?_
  refine HL.val (Val.move rfl) (by decide) ?_
  refine HL.val ((Val.addI rfl rfl).as (congrArg (Value.int .u64) (waddR d3 h1))) (by decide) ?_
  refine HL.val (Val.assign rfl) (by decide) ?_
  refine HL.nil ?_
  refine HQ.next ?_
  refine HC.seq ?_
  refine HC.region ?_
  refine HL.val (Val.assign rfl) (by decide) ?_
  refine HL.nil ?_
  refine HQ.next ?_
  refine HC.seq ?_
  refine HC.region ?_
  refine HL.val (Val.move rfl) (by decide) ?_
  refine HL.val (Val.call en130 (mulVI l2 18446744073709551615 rfl (by omega) e2.lo (by decide)) rfl) (by decide) ?_
  have e4 := mulE (x := l2) (y := 18446744073709551615) e2.lo (by decide)
  generalize l2 * 18446744073709551615 / 18446744073709551616 = h4 at *
  generalize l2 * 18446744073709551615 % 18446744073709551616 = l4 at *
  refine HL.val (Val.move rfl) (by decide) ?_
  refine HL.val (Val.extract rfl rfl) (by decide) ?_
  refine HL.val (Val.extract rfl rfl) (by decide) ?_
  refine HL.val (Val.assign rfl) (by decide) ?_
  refine HL.nil ?_
  refine HQ.next ?_
  refine HC.seq ?_
  refine HC.region ?_
  refine HL.val (Val.assign rfl) (by decide) ?_
  refine HL.nil ?_
  refine HQ.next ?_
  refine HC.seq ?_
  refine HC.region ?_
  refine HL.val (Val.assign rfl) (by decide) ?_
  refine HL.nil ?_
  refine HQ.next ?_
  refine HC.seq ?_
  refine HC.region ?_
  refine HL.val (Val.move rfl) (by decide) ?_
  refine HL.val (Val.call en130 (mulVI l4 18446744073709551588 rfl (by omega) e4.lo (by decide)) rfl) (by decide) ?_
  have e5 := mulE (x := l4) (y := 18446744073709551588) e4.lo (by decide)
  generalize l4 * 18446744073709551588 / 18446744073709551616 = h5 at *
  generalize l4 * 18446744073709551588 % 18446744073709551616 = l5 at *
  refine HL.val (Val.move rfl) (by decide) ?_
  refine HL.val (Val.extract rfl rfl) (by decide) ?_
  refine HL.val (Val.extract rfl rfl) (by decide) ?_
  refine HL.val (Val.assign rfl) (by decide) ?_
  refine HL.val (Val.assign rfl) (by decide) ?_
  refine HL.nil ?_
  refine HQ.next ?_
  refine HC.seq ?_
  refine HC.region ?_
  refine HL.val (Val.assign rfl) (by decide) ?_
  refine HL.nil ?_
  refine HQ.next ?_
  refine HC.seq ?_
  refine HC.region ?_
  refine HL.val (Val.move rfl) (by decide) ?_
  refine HL.val (Val.move rfl) (by decide) ?_
  refine HL.val (Val.callV (addVI l2 l4 0 rfl rfl (by omega) e2.lo e4.lo (by decide)) rfl) (by decide) ?_
  have e6 := addE (x := l2) (y := l4) (c := 0) e2.lo e4.lo (by decide)
  generalize addS l2 l4 0 = s6 at *
  generalize addD l2 l4 0 = d6 at *
  refine HL.val (Val.move rfl) (by decide) ?_
  refine HL.val (Val.extract rfl rfl) (by decide) ?_
  refine HL.val (Val.extract rfl rfl) (by decide) ?_
  refine HL.val (Val.assign rfl) (by decide) ?_
  refine HL.nil ?_
  refine HQ.next ?_
  refine HC.seq ?_
  refine HC.region ?_
  refine HL.val (Val.assign rfl) (by decide) ?_
  refine HL.nil ?_
  refine HQ.next ?_
  refine HC.seq ?_
  refine HC.region ?_
  refine HL.val (Val.assign rfl) (by decide) ?_
  refine HL.nil ?_
  refine HQ.next ?_
  refine HC.seq ?_
  refine HC.region ?_
  refine HL.val (Val.move rfl) (by decide) ?_
  refine HL.val (Val.move rfl) (by decide) ?_
  refine HL.val (Val.move rfl) (by decide) ?_
  refine HL.val (Val.callV (addVI s3 l5 d6 rfl rfl rfl e3.lt e5.lo e6.c) rfl) (by decide) ?_
  have e7 := addE (x := s3) (y := l5) (c := d6) e3.lt e5.lo e6.c
  generalize addS s3 l5 d6 = s7 at *
  generalize addD s3 l5 d6 = d7 at *
  refine HL.val (Val.move rfl) (by decide) ?_
  refine HL.val (Val.extract rfl rfl) (by decide) ?_
  refine HL.val (Val.extract rfl rfl) (by decide) ?_
  refine HL.val (Val.assign rfl) (by decide) ?_
  refine HL.val (Val.assign rfl) (by decide) ?_
  refine HL.nil ?_
  refine HQ.next ?_
  refine HC.seq ?_
  refine HC.region ?_
  refine HL.val (Val.assign rfl) (by decide) ?_
  refine HL.nil ?_
  refine HQ.next ?_
  refine HC.seq ?_
  refine HC.region ?_
  refine HL.val (Val.assign rfl) (by decide) ?_
  refine HL.nil ?_
  refine HQ.next ?_
  refine HC.seq ?_
  refine HC.region ?_
  refine HL.val (Val.move rfl) (by decide) ?_
  refine HL.val (Val.move rfl) (by decide) ?_
  refine HL.val (Val.move rfl) (by decide) ?_
  refine HL.val (Val.callV (addVI ((adWr d3 h1)) h5 d7 rfl rfl rfl (adWr_lt _ _) e5.lt e7.c) rfl) (by decide) ?_
  have e8 := addE (x := ((adWr d3 h1))) (y := h5) (c := d7) (adWr_lt _ _) e5.lt e7.c
  generalize addS ((adWr d3 h1)) h5 d7 = s8 at *
  generalize addD ((adWr d3 h1)) h5 d7 = d8 at *
  refine HL.val (Val.move rfl) (by decide) ?_
  refine HL.val (Val.extract rfl rfl) (by decide) ?_
  refine HL.val (Val.extract rfl rfl) (by decide) ?_
  refine HL.val (Val.assign rfl) (by decide) ?_
  refine HL.val (Val.assign rfl) (by decide) ?_
  refine HL.nil ?_
  refine HQ.next ?_
  refine HC.seq ?_
  refine HC.region ?_
  refine HL.val (Val.assign rfl) (by decide) ?_
  refine HL.nil ?_
  refine HQ.next ?_
  refine HC.seq ?_
  refine HC.region ?_
  refine HL.val (Val.assign rfl) (by decide) ?_
  refine HL.nil ?_
  refine HQ.next ?_
  refine HC.seq ?_
  refine HC.region ?_
  refine HL.val (Val.move rfl) (by decide) ?_
  refine HL.val (Val.move rfl) (by decide) ?_
  refine HL.val (Val.nilCheck rfl) (by decide) ?_
  refine HL.val (Val.ixAddrQ (ox + 1) (i := 1) (m := 2) (s := 1) (e := 23) rfl rfl Tryd.underlying81 (by kernel_rfl) (by decide) (by omega)) (by decide) ?_
  refine HL.val (Val.load_one rfl (fun w hw => hw.same h0 0 rfl hx1) Tryd.underlying23 rfl) (by decide) ?_
  refine HL.val (Val.call en130 (mulVI ((x / 18446744073709551616)) ((x / 18446744073709551616)) rfl rfl (hi64 px) (hi64 px)) rfl) (by decide) ?_
  have e9 := mulE (x := ((x / 18446744073709551616))) (y := ((x / 18446744073709551616))) (hi64 px) (hi64 px)
  generalize ((x / 18446744073709551616)) * ((x / 18446744073709551616)) / 18446744073709551616 = h9 at *
  generalize ((x / 18446744073709551616)) * ((x / 18446744073709551616)) % 18446744073709551616 = l9 at *
  refine HL.val (Val.move rfl) (by decide) ?_
  refine HL.val (Val.extract rfl rfl) (by decide) ?_
  refine HL.val (Val.extract rfl rfl) (by decide) ?_
  refine HL.val (Val.assign rfl) (by decide) ?_
  refine HL.val (Val.assign rfl) (by decide) ?_
  refine HL.nil ?_
  refine HQ.next ?_
  refine HC.seq ?_
  refine HC.region ?_
  refine HL.val (Val.assign rfl) (by decide) ?_
  refine HL.nil ?_
  refine HQ.next ?_
  refine HC.seq ?_
  refine HC.region ?_
  refine HL.val (Val.assign rfl) (by decide) ?_
  refine HL.nil ?_
  refine HQ.next ?_
  refine HC.seq ?_
  refine HC.region ?_
  refine HL.val (Val.move rfl) (by decide) ?_
  refine HL.val (Val.move rfl) (by decide) ?_
  refine HL.val (Val.nilCheck rfl) (by decide) ?_
  refine HL.val (Val.ixAddrQ (ox) (i := 0) (m := 2) (s := 1) (e := 23) rfl rfl Tryd.underlying81 (by kernel_rfl) (by decide) (by omega)) (by decide) ?_
  refine HL.val (Val.load_one rfl (fun w hw => hw.same h0 0 rfl hx0) Tryd.underlying23 rfl) (by decide) ?_
  refine HL.val (Val.call en130 (mulVI ((x / 18446744073709551616)) ((x % 18446744073709551616)) rfl rfl (hi64 px) (Nat.mod_lt _ (by decide))) rfl) (by decide) ?_
  have e10 := mulE (x := ((x / 18446744073709551616))) (y := ((x % 18446744073709551616))) (hi64 px) (Nat.mod_lt _ (by decide))
  generalize ((x / 18446744073709551616)) * ((x % 18446744073709551616)) / 18446744073709551616 = h10 at *
  generalize ((x / 18446744073709551616)) * ((x % 18446744073709551616)) % 18446744073709551616 = l10 at *
  refine HL.val (Val.move rfl) (by decide) ?_
  refine HL.val (Val.extract rfl rfl) (by decide) ?_
  refine HL.val (Val.extract rfl rfl) (by decide) ?_
  refine HL.val (Val.assign rfl) (by decide) ?_
  refine HL.val (Val.assign rfl) (by decide) ?_
  refine HL.nil ?_
  refine HQ.next ?_
  refine HC.seq ?_
  refine HC.region ?_
  refine HL.val (Val.assign rfl) (by decide) ?_
  refine HL.nil ?_
  refine HQ.next ?_
  refine HC.seq ?_
  refine HC.region ?_
  refine HL.val (Val.assign rfl) (by decide) ?_
  refine HL.nil ?_
  refine HQ.next ?_
  refine HC.seq ?_
  refine HC.region ?_
  refine HL.val (Val.move rfl) (by decide) ?_
  refine HL.val (Val.move rfl) (by decide) ?_
  refine HL.val (Val.callV (addVI h10 l9 0 rfl rfl (by omega) e10.lt e9.lo (by decide)) rfl) (by decide) ?_
  have e11 := addE (x := h10) (y := l9) (c := 0) e10.lt e9.lo (by decide)
  generalize addS h10 l9 0 = s11 at *
  generalize addD h10 l9 0 = d11 at *
  refine HL.val (Val.move rfl) (by decide) ?_
  refine HL.val (Val.extract rfl rfl) (by decide) ?_
  refine HL.val (Val.extract rfl rfl) (by decide) ?_
  refine HL.val (Val.assign rfl) (by decide) ?_
  refine HL.val (Val.assign rfl) (by decide) ?_
  refine HL.nil ?_
  refine HQ.next ?_
  refine HC.seq ?_
  refine HC.region ?_
  refine HL.val (Val.move rfl) (by decide) ?_
  refine HL.val (Val.move rfl) (by decide) ?_
  refine HL.val ((Val.addI rfl rfl).as (congrArg (Value.int .u64) (waddR d11 h9))) (by decide) ?_
  refine HL.val (Val.assign rfl) (by decide) ?_
  refine HL.nil ?_
  refine HQ.next ?_
  refine HC.seq ?_
  refine HC.region ?_
  refine HL.val (Val.assign rfl) (by decide) ?_
  refine HL.nil ?_
  refine HQ.next ?_
  refine HC.seq ?_
  refine HC.region ?_
  refine HL.val (Val.assign rfl) (by decide) ?_
  refine HL.nil ?_
  refine HQ.next ?_
  refine HC.seq ?_
  refine HC.region ?_
  refine HL.val (Val.move rfl) (by decide) ?_
  refine HL.val (Val.move rfl) (by decide) ?_
  refine HL.val (Val.callV (addVI s7 l10 0 rfl rfl (by omega) e7.lt e10.lo (by decide)) rfl) (by decide) ?_
  have e12 := addE (x := s7) (y := l10) (c := 0) e7.lt e10.lo (by decide)
  generalize addS s7 l10 0 = s12 at *
  generalize addD s7 l10 0 = d12 at *
  refine HL.val (Val.move rfl) (by decide) ?_
  refine HL.val (Val.extract rfl rfl) (by decide) ?_
  refine HL.val (Val.extract rfl rfl) (by decide) ?_
  refine HL.val (Val.assign rfl) (by decide) ?_
  refine HL.val (Val.assign rfl) (by decide) ?_
  refine HL.nil ?_
  refine HQ.next ?_
  refine HC.seq ?_
  refine HC.region ?_
  refine HL.val (Val.assign rfl) (by decide) ?_
  refine HL.nil ?_
  refine HQ.next ?_
  refine HC.seq ?_
  refine HC.region ?_
  refine HL.val (Val.assign rfl) (by decide) ?_
  refine HL.nil ?_
  refine HQ.next ?_
  refine HC.seq ?_
  refine HC.region ?_
  refine HL.val (Val.move rfl) (by decide) ?_
  refine HL.val (Val.move rfl) (by decide) ?_
  refine HL.val (Val.move rfl) (by decide) ?_
  refine HL.val (Val.callV (addVI s8 s11 d12 rfl rfl rfl e8.lt e11.lt e12.c) rfl) (by decide) ?_
  have e13 := addE (x := s8) (y := s11) (c := d12) e8.lt e11.lt e12.c
  generalize addS s8 s11 d12 = s13 at *
  generalize addD s8 s11 d12 = d13 at *
  refine HL.val (Val.move rfl) (by decide) ?_
  refine HL.val (Val.extract rfl rfl) (by decide) ?_
  refine HL.val (Val.extract rfl rfl) (by decide) ?_
  refine HL.val (Val.assign rfl) (by decide) ?_
  refine HL.val (Val.assign rfl) (by decide) ?_
  refine HL.nil ?_
  refine HQ.next ?_
  refine HC.seq ?_
  refine HC.region ?_
  refine HL.val (Val.assign rfl) (by decide) ?_
  refine HL.nil ?_
  refine HQ.next ?_
  refine HC.seq ?_
  refine HC.region ?_
  refine HL.val (Val.assign rfl) (by decide) ?_
  refine HL.nil ?_
  refine HQ.next ?_
  refine HC.seq ?_
  refine HC.region ?_
  refine HL.val (Val.move rfl) (by decide) ?_
  refine HL.val (Val.move rfl) (by decide) ?_
  refine HL.val (Val.move rfl) (by decide) ?_
  refine HL.val (Val.callV (addVI d8 ((adWr d11 h9)) d13 rfl rfl rfl e8.clt (adWr_lt _ _) e13.c) rfl) (by decide) ?_
  have e14 := addE (x := d8) (y := ((adWr d11 h9))) (c := d13) e8.clt (adWr_lt _ _) e13.c
  generalize addS d8 ((adWr d11 h9)) d13 = s14 at *
  generalize addD d8 ((adWr d11 h9)) d13 = d14 at *
  refine HL.val (Val.move rfl) (by decide) ?_
  refine HL.val (Val.extract rfl rfl) (by decide) ?_
  refine HL.val (Val.extract rfl rfl) (by decide) ?_
  refine HL.val (Val.assign rfl) (by decide) ?_
  refine HL.val (Val.assign rfl) (by decide) ?_
  refine HL.nil ?_
  refine HQ.next ?_
  refine HC.seq ?_
  refine HC.region ?_
  refine HL.val (Val.assign rfl) (by decide) ?_
  refine HL.nil ?_
  refine HQ.next ?_
  refine HC.seq ?_
  refine HC.region ?_
  refine HL.val (Val.move rfl) (by decide) ?_
  refine HL.val (Val.call en130 (mulVI s12 18446744073709551615 rfl (by omega) e12.lt (by decide)) rfl) (by decide) ?_
  have e15 := mulE (x := s12) (y := 18446744073709551615) e12.lt (by decide)
  generalize s12 * 18446744073709551615 / 18446744073709551616 = h15 at *
  generalize s12 * 18446744073709551615 % 18446744073709551616 = l15 at *
  refine HL.val (Val.move rfl) (by decide) ?_
  refine HL.val (Val.extract rfl rfl) (by decide) ?_
  refine HL.val (Val.extract rfl rfl) (by decide) ?_
  refine HL.val (Val.assign rfl) (by decide) ?_
  refine HL.nil ?_
  refine HQ.next ?_
  refine HC.seq ?_
  refine HC.region ?_
  refine HL.val (Val.assign rfl) (by decide) ?_
  refine HL.nil ?_
  refine HQ.next ?_
  refine HC.seq ?_
  refine HC.region ?_
  refine HL.val (Val.assign rfl) (by decide) ?_
  refine HL.nil ?_
  refine HQ.next ?_
  refine HC.seq ?_
  refine HC.region ?_
  refine HL.val (Val.move rfl) (by decide) ?_
  refine HL.val (Val.call en130 (mulVI l15 18446744073709551588 rfl (by omega) e15.lo (by decide)) rfl) (by decide) ?_
  have e16 := mulE (x := l15) (y := 18446744073709551588) e15.lo (by decide)
  generalize l15 * 18446744073709551588 / 18446744073709551616 = h16 at *
  generalize l15 * 18446744073709551588 % 18446744073709551616 = l16 at *
  refine HL.val (Val.move rfl) (by decide) ?_
  refine HL.val (Val.extract rfl rfl) (by decide) ?_
  refine HL.val (Val.extract rfl rfl) (by decide) ?_
  refine HL.val (Val.assign rfl) (by decide) ?_
  refine HL.val (Val.assign rfl) (by decide) ?_
  refine HL.nil ?_
  refine HQ.next ?_
  refine HC.seq ?_
  refine HC.region ?_
  refine HL.val (Val.assign rfl) (by decide) ?_
  refine HL.nil ?_
  refine HQ.next ?_
  refine HC.seq ?_
  refine HC.region ?_
  refine HL.val (Val.move rfl) (by decide) ?_
  refine HL.val (Val.move rfl) (by decide) ?_
  refine HL.val (Val.callV (addVI s12 l15 0 rfl rfl (by omega) e12.lt e15.lo (by decide)) rfl) (by decide) ?_
  have e17 := addE (x := s12) (y := l15) (c := 0) e12.lt e15.lo (by decide)
  generalize addS s12 l15 0 = s17 at *
  generalize addD s12 l15 0 = d17 at *
  refine HL.val (Val.move rfl) (by decide) ?_
  refine HL.val (Val.extract rfl rfl) (by decide) ?_
  refine HL.val (Val.extract rfl rfl) (by decide) ?_
  refine HL.val (Val.assign rfl) (by decide) ?_
  refine HL.nil ?_
  refine HQ.next ?_
  refine HC.seq ?_
  refine HC.region ?_
  refine HL.val (Val.assign rfl) (by decide) ?_
  refine HL.nil ?_
  refine HQ.next ?_
  refine HC.seq ?_
  refine HC.region ?_
  refine HL.val (Val.assign rfl) (by decide) ?_
  refine HL.nil ?_
  refine HQ.next ?_
  refine HC.seq ?_
  refine HC.region ?_
  refine HL.val (Val.move rfl) (by decide) ?_
  refine HL.val (Val.move rfl) (by decide) ?_
  refine HL.val (Val.move rfl) (by decide) ?_
  refine HL.val (Val.callV (addVI s13 l16 d17 rfl rfl rfl e13.lt e16.lo e17.c) rfl) (by decide) ?_
  have e18 := addE (x := s13) (y := l16) (c := d17) e13.lt e16.lo e17.c
  generalize addS s13 l16 d17 = s18 at *
  generalize addD s13 l16 d17 = d18 at *
  refine HL.val (Val.move rfl) (by decide) ?_
  refine HL.val (Val.extract rfl rfl) (by decide) ?_
  refine HL.val (Val.extract rfl rfl) (by decide) ?_
  refine HL.val (Val.assign rfl) (by decide) ?_
  refine HL.val (Val.assign rfl) (by decide) ?_
  refine HL.nil ?_
  refine HQ.next ?_
  refine HC.seq ?_
  refine HC.region ?_
  refine HL.val (Val.assign rfl) (by decide) ?_
  refine HL.nil ?_
  refine HQ.next ?_
  refine HC.seq ?_
  refine HC.region ?_
  refine HL.val (Val.assign rfl) (by decide) ?_
  refine HL.nil ?_
  refine HQ.next ?_
  refine HC.seq ?_
  refine HC.region ?_
  refine HL.val (Val.move rfl) (by decide) ?_
  refine HL.val (Val.move rfl) (by decide) ?_
  refine HL.val (Val.move rfl) (by decide) ?_
  refine HL.val (Val.callV (addVI s14 h16 d18 rfl rfl rfl e14.lt e16.lt e18.c) rfl) (by decide) ?_
  have e19 := addE (x := s14) (y := h16) (c := d18) e14.lt e16.lt e18.c
  generalize addS s14 h16 d18 = s19 at *
  generalize addD s14 h16 d18 = d19 at *
  refine HL.val (Val.move rfl) (by decide) ?_
  refine HL.val (Val.extract rfl rfl) (by decide) ?_
  refine HL.val (Val.extract rfl rfl) (by decide) ?_
  refine HL.val (Val.assign rfl) (by decide) ?_
  refine HL.val (Val.assign rfl) (by decide) ?_
  refine HL.nil ?_
  refine HQ.next ?_
  refine HC.seq ?_
  refine HC.region ?_
  refine HL.val (Val.move rfl) (by decide) ?_
  refine HL.val (Val.move rfl) (by decide) ?_
  refine HL.val ((Val.addI rfl rfl).as (congrArg (Value.int .u64) (waddR d19 d14))) (by decide) ?_
  refine HL.val (Val.assign rfl) (by decide) ?_
  refine HL.nil ?_
  refine HQ.next ?_
  refine HC.seq ?_
  refine HC.region ?_
  refine HL.val (Val.assign rfl) (by decide) ?_
  refine HL.nil ?_
  refine HQ.next ?_
  refine HC.seq ?_
  refine HC.region ?_
  refine HL.val (Val.assign rfl) (by decide) ?_
  refine HL.nil ?_
  refine HQ.next ?_
  refine HC.seq ?_
  refine HC.region ?_
  refine HL.val (Val.move rfl) (by decide) ?_
  refine HL.val (Val.callV (subVI s18 1 0 rfl (by omega) (by omega) e18.lt (by decide) (by decide)) rfl) (by decide) ?_
  have e20 := subE (x := s18) (y := 1) (c := 0) e18.lt (by decide) (by decide)
  generalize subS s18 1 0 = s20 at *
  generalize subD s18 1 0 = d20 at *
  refine HL.val (Val.move rfl) (by decide) ?_
  refine HL.val (Val.extract rfl rfl) (by decide) ?_
  refine HL.val (Val.extract rfl rfl) (by decide) ?_
  refine HL.val (Val.assign rfl) (by decide) ?_
  refine HL.val (Val.assign rfl) (by decide) ?_
  refine HL.nil ?_
  refine HQ.next ?_
  refine HC.seq ?_
  refine HC.region ?_
  refine HL.val (Val.assign rfl) (by decide) ?_
  refine HL.nil ?_
  refine HQ.next ?_
  refine HC.seq ?_
  refine HC.region ?_
  refine HL.val (Val.assign rfl) (by decide) ?_
  refine HL.nil ?_
  refine HQ.next ?_
  refine HC.seq ?_
  refine HC.region ?_
  refine HL.val (Val.move rfl) (by decide) ?_
  refine HL.val (Val.move rfl) (by decide) ?_
  refine HL.val (Val.callV (subVI s19 18446744073709551588 d20 rfl (by omega) rfl e19.lt (by decide) e20.c) rfl) (by decide) ?_
  have e21 := subE (x := s19) (y := 18446744073709551588) (c := d20) e19.lt (by decide) e20.c
  generalize subS s19 18446744073709551588 d20 = s21 at *
  generalize subD s19 18446744073709551588 d20 = d21 at *
  refine HL.val (Val.move rfl) (by decide) ?_
  refine HL.val (Val.extract rfl rfl) (by decide) ?_
  refine HL.val (Val.extract rfl rfl) (by decide) ?_
  refine HL.val (Val.assign rfl) (by decide) ?_
  refine HL.val (Val.assign rfl) (by decide) ?_
  refine HL.nil ?_
  refine HQ.next ?_
  refine HC.seq ?_
  refine HC.region ?_
  refine HL.val (Val.assign rfl) (by decide) ?_
  refine HL.nil ?_
  refine HQ.next ?_
  refine HC.seq ?_
  refine HC.region ?_
  refine HL.val (Val.move rfl) (by decide) ?_
  refine HL.val (Val.move rfl) (by decide) ?_
  refine HL.val (Val.callV (subVI ((adWr d19 d14)) 0 d21 rfl (by omega) rfl (adWr_lt _ _) (by decide) e21.c) rfl) (by decide) ?_
  have e22 := subE (x := ((adWr d19 d14))) (y := 0) (c := d21) (adWr_lt _ _) (by decide) e21.c
  generalize subS ((adWr d19 d14)) 0 d21 = s22 at *
  generalize subD ((adWr d19 d14)) 0 d21 = d22 at *
  refine HL.val (Val.move rfl) (by decide) ?_
  refine HL.val (Val.extract rfl rfl) (by decide) ?_
  refine HL.val (Val.extract rfl rfl) (by decide) ?_
  refine HL.val (Val.assign rfl) (by decide) ?_
  refine HL.nil ?_
  refine HQ.next ?_
  refine HC.seq ?_
  refine HC.region ?_
  refine HL.new (New.alloc (cs := #[.int .u64 ((0 : Nat) : Int)]) (fun _ => rfl)) (by decide) ?_
  intro b1 hb1
  refine HL.nil ?_
  refine HQ.next ?_
  refine HC.seq ?_
  refine HC.region ?_
  refine HL.val (Val.move rfl) (by decide) ?_
  refine HL.val (Val.move rfl) (by decide) ?_
  refine HL.val (Val.move rfl) (by decide) ?_
  refine HL.callD en129 rfl (fun w hw => lift_one hw (i := 0) rfl (.inl hb1) (cmovI_any b1 0 d22 s20 s18 _ rfl rfl rfl e22.c e20.lt e18.lt w (hw.at (i := 0) rfl))) (by decide) ?_
  simp only [List.set_cons_zero]
  refine HL.nil ?_
  refine HQ.next ?_
  refine HC.seq ?_
  refine HC.region ?_
  refine HL.new (New.alloc (cs := #[.int .u64 ((0 : Nat) : Int)]) (fun _ => rfl)) (by decide) ?_
  intro b2 hb2
  refine HL.nil ?_
  refine HQ.next ?_
  refine HC.seq ?_
  refine HC.region ?_
  refine HL.val (Val.move rfl) (by decide) ?_
  refine HL.val (Val.move rfl) (by decide) ?_
  refine HL.val (Val.move rfl) (by decide) ?_
  refine HL.callD en129 rfl (fun w hw => lift_one hw (i := 0) rfl (.inl hb2) (cmovI_any b2 0 d22 s21 s19 _ rfl rfl rfl e22.c e21.lt e19.lt w (hw.at (i := 0) rfl))) (by decide) ?_
  simp only [List.set_cons_zero]
  refine HL.nil ?_
  refine HQ.next ?_
  refine HC.seq ?_
  refine HC.draw0 4 (by kernel_rfl) (by kernel_rfl) ?_
  simp only [List.take, List.drop]
  refine HV.val (Val.move rfl) (by decide) ?_
  refine HV.val (Val.load_cell rfl (fun w hw => hw.at (i := 1) rfl) rfl Tryd.underlying23 rfl) (by decide) ?_
  refine HV.val (Val.nilCheck rfl) (by decide) ?_
  refine HV.val (Val.ixAddrQ (oo) (i := 0) (m := 2) (s := 1) (e := 23) rfl rfl Tryd.underlying81 (by kernel_rfl) (by decide) (by omega)) (by decide) ?_
  refine HV.tail0 ?_
  refine HL.put 2 rfl (Put.cell rfl rfl (by kernel_rfl) ho rfl) (ownB bo) ?_
  simp only [List.set_cons_zero, List.set_cons_succ]
  refine HL.nil ?_
  refine HQ.next ?_
  refine HC.draw0 4 (by kernel_rfl) (by kernel_rfl) ?_
  simp only [List.take, List.drop]
  refine HV.val (Val.move rfl) (by decide) ?_
  refine HV.val (Val.load_cell rfl (fun w hw => hw.at (i := 0) rfl) rfl Tryd.underlying23 rfl) (by decide) ?_
  refine HV.val (Val.nilCheck rfl) (by decide) ?_
  refine HV.val (Val.ixAddrQ (oo + 1) (i := 1) (m := 2) (s := 1) (e := 23) rfl rfl Tryd.underlying81 (by kernel_rfl) (by decide) (by omega)) (by decide) ?_
  refine HV.tail0 ?_
  refine HL.put 2 rfl (Put.cell rfl rfl (by kernel_rfl) (by rw [Array.size_setIfInBounds]; exact ho1) rfl) (ownB bo) ?_
  simp only [List.set_cons_zero, List.set_cons_succ]
  refine HL.nil ?_
  refine HQ.end0 rfl (fun w hw => ⟨rfl, ?_⟩)
  have hm := fia_mul px px e1 e2 e3 e4 e5 e6 e7 e8 e9 e10 e11 e12 e13 e14 e15 e16 e17 e18 e19 e20 e21 e22
  have h := hw.pick [2] (by simp)
  simp only [List.filterMap_cons, List.filterMap_nil, List.getElem?_cons_zero, List.getElem?_cons_succ] at h
  rw [hm.1, hm.2] at h
  exact h

theorem fiaAddR_any {b o T bx ox x bz oy y : Nat} {cs : Array Value} {w : World} (h0 : w.heap[b]? = some (.cells cs T (0, 0))) (ho : o + nl ≤ cs.size) (hx : RawAt w bx ox x) (px : x < pf) (hy : RawAt w bz oy y) (py : y < pf) :
    Calls Tryd.prog 109 #[.pointer (some ⟨b, o, none⟩), .pointer (some ⟨bx, ox, none⟩), .pointer (some ⟨bz, oy, none⟩)] w fun e w' => e = .returned (.tuple #[]) ∧ Hold (fun k => k == b) w [(b, .cells (putR cs o ((x + y) % pf)) T (0, 0))] w' :=
  fiaAdd_any (oo := o) h0 (Nat.lt_of_lt_of_le (by show o < o + 2; omega) ho) (Nat.lt_of_lt_of_le (by show o + 1 < o + 2; omega) ho) (hx 0 _ rfl) (hx 1 _ rfl) px (hy 0 _ rfl) (hy 1 _ rfl) py

theorem fiaSubR_any {b o T bx ox x bz oy y : Nat} {cs : Array Value} {w : World} (h0 : w.heap[b]? = some (.cells cs T (0, 0))) (ho : o + nl ≤ cs.size) (hx : RawAt w bx ox x) (px : x < pf) (hy : RawAt w bz oy y) (py : y < pf) :
    Calls Tryd.prog 113 #[.pointer (some ⟨b, o, none⟩), .pointer (some ⟨bx, ox, none⟩), .pointer (some ⟨bz, oy, none⟩)] w fun e w' => e = .returned (.tuple #[]) ∧ Hold (fun k => k == b) w [(b, .cells (putR cs o (subF x y)) T (0, 0))] w' :=
  fiaSub_any (oo := o) h0 (Nat.lt_of_lt_of_le (by show o < o + 2; omega) ho) (Nat.lt_of_lt_of_le (by show o + 1 < o + 2; omega) ho) (hx 0 _ rfl) (hx 1 _ rfl) px (hy 0 _ rfl) (hy 1 _ rfl) py

theorem fiaMulR_any {b o T bx ox x bz oy y : Nat} {cs : Array Value} {w : World} (h0 : w.heap[b]? = some (.cells cs T (0, 0))) (ho : o + nl ≤ cs.size) (hx : RawAt w bx ox x) (px : x < pf) (hy : RawAt w bz oy y) (py : y < pf) :
    Calls Tryd.prog 110 #[.pointer (some ⟨b, o, none⟩), .pointer (some ⟨bx, ox, none⟩), .pointer (some ⟨bz, oy, none⟩)] w fun e w' => e = .returned (.tuple #[]) ∧ Hold (fun k => k == b) w [(b, .cells (putR cs o (mm x y)) T (0, 0))] w' :=
  fiaMul_any (oo := o) h0 (Nat.lt_of_lt_of_le (by show o < o + 2; omega) ho) (Nat.lt_of_lt_of_le (by show o + 1 < o + 2; omega) ho) (hx 0 _ rfl) (hx 1 _ rfl) px (hy 0 _ rfl) (hy 1 _ rfl) py

theorem fiaSqrR_any {b o T bx ox x : Nat} {cs : Array Value} {w : World} (h0 : w.heap[b]? = some (.cells cs T (0, 0))) (ho : o + nl ≤ cs.size) (hx : RawAt w bx ox x) (px : x < pf) :
    Calls Tryd.prog 114 #[.pointer (some ⟨b, o, none⟩), .pointer (some ⟨bx, ox, none⟩)] w fun e w' => e = .returned (.tuple #[]) ∧ Hold (fun k => k == b) w [(b, .cells (putR cs o (mm x x)) T (0, 0))] w' :=
  fiaSqr_any (oo := o) h0 (Nat.lt_of_lt_of_le (by show o < o + 2; omega) ho) (Nat.lt_of_lt_of_le (by show o + 1 < o + 2; omega) ho) (hx 0 _ rfl) (hx 1 _ rfl) px
end Go.Proofs.YtgdfdkpkhjbibaaDoor
