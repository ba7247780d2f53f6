/-
  fp25519.IsZero, InvSqrt, impl.InvSqrt (written by geniq.py).
-/
import Derived.Test.YteehdjkmjncehaaSt
import Derived.Test.YteehdjkmjncehaaHX
import Derived.Test.YteehdjkmjncehaaMC
namespace Go.Proofs.Yteehdjkmjncehaa
open Go.RowKit
theorem eql59 (a b : Nat) (ha : a < 256 ^ 32) (hb : b < 256 ^ 32) (w : World) : (binOp .eql 59 (.agg (byA 32 a)) (.agg (byA 32 b))).run Try.prog w = .ok (.bool (decide (a = b))) w := run_eql_by Try.underlying59 Try.underlying5 (by kernel_rfl) ha hb w
section
variable {P : Program} {n : Nat} {σ : List (Nat × Value)} {ty : TypeId} {pos : String} {af : Array Edge} {t T : TypeId} {x y : Operand} {g : Nat} {a b c d u : Value}

theorem Put.four0 (hx : evS σ x = some (.pointer (some ⟨g, 0, none⟩))) (hy : evS σ y = some u) (hi : (P.info? t).map (·.size) = some 1) (h1 : u.oneCell' = true) : Put P n σ ⟨none, .store t x y, ty, pos, af, none⟩ g (.cells #[a, b, c, d] T (0, 0)) (.cells #[u, b, c, d] T (0, 0)) :=
  Put.cell (old := #[a, b, c, d]) hx hy hi (show 0 < 4 from by decide) h1

theorem Put.four1 (hx : evS σ x = some (.pointer (some ⟨g, 1, none⟩))) (hy : evS σ y = some u) (hi : (P.info? t).map (·.size) = some 1) (h1 : u.oneCell' = true) : Put P n σ ⟨none, .store t x y, ty, pos, af, none⟩ g (.cells #[a, b, c, d] T (0, 0)) (.cells #[a, u, c, d] T (0, 0)) :=
  Put.cell (old := #[a, b, c, d]) hx hy hi (show 1 < 4 from by decide) h1

theorem Put.four2 (hx : evS σ x = some (.pointer (some ⟨g, 2, none⟩))) (hy : evS σ y = some u) (hi : (P.info? t).map (·.size) = some 1) (h1 : u.oneCell' = true) : Put P n σ ⟨none, .store t x y, ty, pos, af, none⟩ g (.cells #[a, b, c, d] T (0, 0)) (.cells #[a, b, u, d] T (0, 0)) :=
  Put.cell (old := #[a, b, c, d]) hx hy hi (show 2 < 4 from by decide) h1

theorem Put.four3 (hx : evS σ x = some (.pointer (some ⟨g, 3, none⟩))) (hy : evS σ y = some u) (hi : (P.info? t).map (·.size) = some 1) (h1 : u.oneCell' = true) : Put P n σ ⟨none, .store t x y, ty, pos, af, none⟩ g (.cells #[a, b, c, d] T (0, 0)) (.cells #[a, b, c, u] T (0, 0)) :=
  Put.cell (old := #[a, b, c, d]) hx hy hi (show 3 < 4 from by decide) h1

end
theorem al83 (w : World) : (Instr.alloc 83 true (.tuple #[])).run Try.prog w = .ok (.pointer (some ⟨w.heap.size, 0, none⟩)) (w.alloc (.cells #[.pointer none, .pointer none, .pointer none, .pointer none] 83 (0, 0))) := rfl
theorem hold_three {w : World} {b c d : Nat} {ob oc od : Obj} {D : Nat → Bool} (h : w.heap[b]? = some ob) (h2 : w.heap[c]? = some oc) (h3 : w.heap[d]? = some od) (hn : b ≠ c) (hn2 : b ≠ d) (hn3 : c ≠ d) : Hold D w [(b, ob), (c, oc), (d, od)] w := ⟨Sn.refl _ _, (fun p hp => by
  rcases List.mem_cons.1 hp with rfl | hp
  · exact h
  · rcases List.mem_cons.1 hp with rfl | hp
    · exact h2
    · obtain rfl : p = (d, od) := by simpa using hp
      exact h3), by simp [hn, hn2, hn3]⟩
theorem nd_ne2 {D : Nat → Bool} {w0 w : World} {η : List (Nat × Obj)} (hw : Hold D w0 η w) {i j b c : Nat} {ob oc : Obj} (hi : η[i]? = some (b, ob)) (hj : η[j]? = some (c, oc)) (hn : i ≠ j) : b ≠ c := fun e => by
  have n := List.pairwise_iff_getElem.1 hw.nd
  obtain ⟨li, gi⟩ := List.getElem?_eq_some_iff.1 hi
  obtain ⟨lj, gj⟩ := List.getElem?_eq_some_iff.1 hj
  rcases Nat.lt_or_gt_of_ne hn with h | h
  · exact n i j (by simpa using li) (by simpa using lj) h (by simp [gi, gj, e])
  · exact n j i (by simpa using lj) (by simpa using li) h (by simp [gi, gj, e])

set_option maxRecDepth 100000 in
theorem isZero_any {bx T x : Nat} {w : World} (hb : w.heap[bx]? = some (.cells (byA 32 x) T (0, 0))) (lx : x < 2 ^ 256) :
    Calls Try.prog 81 #[.pointer (some ⟨bx, 0, none⟩)] w fun e w' => e = .returned (.bool (decide (x % p25 = 0))) ∧ Hold (fun k => k == bx) w [(bx, .cells (byA 32 (x % p25)) T (0, 0))] w' := by
  refine calls_H (args := [.pointer (some ⟨bx, 0, none⟩)]) (fun k => k == bx) [(bx, .cells (byA 32 x) T (0, 0))] Try.func81 rfl (m := 10) rfl rfl (hold_one hb) ?_
  refine HC.seq ?_
  refine HC.region ?_
  refine HL.val (Val.assign rfl) (by decide) ?_
  refine HL.nil ?_
  refine HQ.next ?_
  refine HC.seq ?_
  refine HC.region ?_
  refine HL.val (Val.move rfl) (by decide) ?_
  refine HL.call (f := 67) en67 rfl (modpH (dst1 0 rfl (ownB bx)) (elh1 0 rfl) lx) (by decide) ?_
  rintro _ ⟨_, rfl⟩
  simp only [List.set_cons_zero]
  refine HL.nil ?_
  refine HQ.next ?_
  refine HC.seq ?_
  refine HC.region ?_
  refine HL.val (Val.move rfl) (by decide) ?_
  refine HL.val (Val.nilCheck rfl) (by decide) ?_
  refine HL.val (Val.load_row rfl (fun w hw => hw.at (i := 0) rfl) Try.underlying59 rfl (sz59 _)) (by decide) ?_
  refine HL.val (Val.build rfl bz59) (by decide) ?_
  refine HL.val (Val.eqlA rfl rfl (by kernel_rfl) (eql59 ((x % p25)) 0 (lt_256_32 (lt256 _)) (lt_256_32 (by decide)))) (by decide) ?_
  refine HL.val (Val.assign rfl) (by decide) ?_
  refine HL.nil ?_
  refine HQ.next ?_
  refine HC.ret ?_
  exact HQ.ret1 rfl rfl (fun w hw => ⟨rfl, hw.pick [0] (by simp)⟩)

theorem isZero_true {bx T x : Nat} {w : World} (hz : x % p25 = 0) (hb : w.heap[bx]? = some (.cells (byA 32 x) T (0, 0))) (lx : x < 2 ^ 256) :
    Calls Try.prog 81 #[.pointer (some ⟨bx, 0, none⟩)] w fun e w' => e = .returned (.bool true) ∧ Hold (fun k => k == bx) w [(bx, .cells (byA 32 (x % p25)) T (0, 0))] w' := by
  have h := isZero_any hb lx
  rwa [decide_eq_true hz] at h

theorem isZero_false {bx T x : Nat} {w : World} (hz : ¬ x % p25 = 0) (hb : w.heap[bx]? = some (.cells (byA 32 x) T (0, 0))) (lx : x < 2 ^ 256) :
    Calls Try.prog 81 #[.pointer (some ⟨bx, 0, none⟩)] w fun e w' => e = .returned (.bool false) ∧ Hold (fun k => k == bx) w [(bx, .cells (byA 32 (x % p25)) T (0, 0))] w' := by
  have h := isZero_any hb lx
  rwa [decide_eq_false hz] at h

set_option maxRecDepth 100000 in
theorem bl59_x37302 : Try.prog.built 59 [(0, .int .u8 176), (1, .int .u8 160), (2, .int .u8 14), (3, .int .u8 74), (4, .int .u8 39), (5, .int .u8 27), (6, .int .u8 238), (7, .int .u8 196), (8, .int .u8 120), (9, .int .u8 228), (10, .int .u8 47), (11, .int .u8 173), (12, .int .u8 6), (13, .int .u8 24), (14, .int .u8 67), (15, .int .u8 47), (16, .int .u8 167), (17, .int .u8 215), (18, .int .u8 251), (19, .int .u8 61), (20, .int .u8 153), (21, .int .u8 0), (22, .int .u8 77), (23, .int .u8 43), (24, .int .u8 11), (25, .int .u8 223), (26, .int .u8 193), (27, .int .u8 79), (28, .int .u8 128), (29, .int .u8 36), (30, .int .u8 131), (31, .int .u8 43)] = some (byA 32 19681161376707505956807079304988542015446066515923890162744021073123829784752) := by kernel_rfl

/-- Whether x / y is a square. -/
def sqB (x y : Nat) : Bool := decide ((x*y)^(4*Num.k25 + 2) % p25 = 1)
theorem k25_val : 7237005577332262213973186563042994240829374041602535252466099000494570602493 = Num.k25 := by decide +kernel
/-- What the chain comes to. -/
theorem isq_leaf {x y r1 r2 r3 r4 r5 e z c t a b : Nat} (hx : ¬ x % p25 = 0) (hy : ¬ y % p25 = 0) (h1 : r1 % p25 = x * y % p25) (h2 : r2 % p25 = y * y % p25) (h3 : r3 % p25 = r1 * r2 % p25) (h4 : r4 % p25 = r2 * r2 % p25) (h5 : r5 % p25 = r4 * r3 % p25)
    (hp : PowIs r5 e 7237005577332262213973186563042994240829374041602535252466099000494570602493) (hz : z % p25 = e * r3 % p25) (hc : c % p25 = z * z % p25) (ht : t % p25 = c * y % p25) (ha : (a + x) % p25 = t % p25) (hb : b % p25 = (t + x) % p25) :
    (a % p25 = 0 → sqB x y = true ∧ z * z * y % p25 = x % p25) ∧ (b % p25 = 0 → sqB x y = true ∧ ∀ w, w % p25 = z * 19681161376707505956807079304988542015446066515923890162744021073123829784752 % p25 → w * w * y % p25 = x % p25) ∧ (¬ a % p25 = 0 → ¬ b % p25 = 0 → sqB x y = false) := by
  have mm : ∀ {m n u v k : Nat}, k % p25 = m * n % p25 → m % p25 = u % p25 → n % p25 = v % p25 → k % p25 = u * v % p25 := fun h hu hv => by rw [h, Nat.mul_mod, hu, hv, ← Nat.mul_mod]
  have e3 : r3 % p25 = x * y^3 % p25 := by
    have h := mm h3 h1 h2
    rwa [show x * y * (y * y) = x * y^3 by grind] at h
  have e4 : r4 % p25 = y^4 % p25 := by
    have h := mm h4 h2 h2
    rwa [show y * y * (y * y) = y^4 by grind] at h
  have e5 : r5 % p25 = x * y^7 % p25 := by
    have h := mm h5 e4 e3
    rwa [show y^4 * (x * y^3) = x * y^7 by grind] at h
  have hz' : z % Num.p25 = (x*y^7)^Num.k25 * (x*y^3) % Num.p25 := by
    unfold PowIs at hp
    rw [k25_val] at hp
    refine mm hz ?_ e3
    rw [hp, Nat.pow_mod, e5, ← Nat.pow_mod]
  have et : t % p25 = z * z * y % p25 := mm ht hc rfl
  have ea : a % p25 = 0 ↔ z * z * y % p25 = x % p25 := by
    rw [← et, ← ha]
    constructor
    · intro h; rw [Nat.add_mod, h, Nat.zero_add, Nat.mod_mod]
    · intro h
      have h1 : Num.Z p25 (((a + x : Nat) : Int) - x) := Num.znat.1 h
      rw [Num.znat0]; push_cast at h1; exact h1.lin1 1 (by grind)
  have eb : b % p25 = 0 ↔ (z * z * y + x) % p25 = 0 := by rw [hb, Nat.add_mod, et, ← Nat.add_mod]
  have hq := Num.isq hx hy hz'
  refine ⟨fun h0 => ?_, fun h0 => ?_, fun h0 h0' => ?_⟩
  · have h' := ea.1 h0
    rcases hq with ⟨h, _⟩ | ⟨_, _, k, _⟩
    · exact ⟨decide_eq_true h, h'⟩
    · exact absurd h' k
  · have h' := eb.1 h0
    rcases hq with ⟨h, _⟩ | ⟨_, _, _, k⟩
    · refine ⟨decide_eq_true h, fun w hw => ?_⟩
      have h6 := Num.isq_root (i := 19681161376707505956807079304988542015446066515923890162744021073123829784752) (by decide +kernel) h'
      rw [show x % p25 = x % Num.p25 from rfl, ← h6]
      exact mm rfl (mm rfl hw hw) rfl
    · exact absurd h' k
  · rcases hq with ⟨_, h' | h'⟩ | ⟨h, _⟩
    · exact absurd (ea.2 h') h0
    · exact absurd (eb.2 h') h0'
    · exact decide_eq_false h
set_option maxRecDepth 100000 in
set_option maxHeartbeats 3200000 in
theorem fpInvSqrt_any {bz bx by' Tz Tx Ty z x y : Nat} {w : World} (g0 : w.heap[bz]? = some (.cells (byA 32 z) Tz (0, 0))) (g1 : w.heap[bx]? = some (.cells (byA 32 x) Tx (0, 0))) (g2 : w.heap[by']? = some (.cells (byA 32 y) Ty (0, 0))) (n1 : bz ≠ bx) (n2 : bz ≠ by') (n3 : bx ≠ by') (lx : x < 2 ^ 256) (ly : y < 2 ^ 256) (hx : ¬ x % p25 = 0) (hy : ¬ y % p25 = 0) :
    Calls Try.prog 62 #[.pointer (some ⟨bz, 0, none⟩), .pointer (some ⟨bx, 0, none⟩), .pointer (some ⟨by', 0, none⟩)] w fun e w' => ∃ r, (r < 2 ^ 256 ∧ (sqB x y = true → r * r * y % p25 = x % p25) ∧ e = .returned (.bool (sqB x y))) ∧ Hold (fun k => k == bz) w [(bz, .cells (byA 32 r) Tz (0, 0))] w' := by
  refine calls_H (args := [.pointer (some ⟨bz, 0, none⟩), .pointer (some ⟨bx, 0, none⟩), .pointer (some ⟨by', 0, none⟩)]) (fun k => k == bz) [(bz, .cells (byA 32 z) Tz (0, 0)), (bx, .cells (byA 32 x) Tx (0, 0)), (by', .cells (byA 32 y) Ty (0, 0))] Try.func62 rfl (m := 291) rfl rfl (hold_three g0 g1 g2 n1 n2 n3) ?_
  refine HC.seq ?_
  refine HC.region ?_
  refine HL.val (Val.assign rfl) (by decide) ?_
  refine HL.nil ?_
  refine HQ.next ?_
  refine HC.seq ?_
  refine HC.region ?_
  refine HL.val (Val.build rfl bl59_x37302) (by decide) ?_
  refine HL.new (New.box rfl) (by decide) ?_
  intro b1 hb1
  refine HL.val (Val.assign rfl) (by decide) ?_
  refine HL.nil ?_
  refine HQ.next ?_
  refine HC.seq ?_
  refine HC.region ?_
  refine HL.val (Val.build rfl bz59) (by decide) ?_
  refine HL.new (New.box rfl) (by decide) ?_
  intro b2 hb2
  refine HL.val (Val.build rfl bz59) (by decide) ?_
  refine HL.new (New.box rfl) (by decide) ?_
  intro b3 hb3
  refine HL.val (Val.build rfl bz59) (by decide) ?_
  refine HL.new (New.box rfl) (by decide) ?_
  intro b4 hb4
  refine HL.val (Val.build rfl bz59) (by decide) ?_
  refine HL.new (New.box rfl) (by decide) ?_
  intro b5 hb5
  refine HL.val (Val.assign rfl) (by decide) ?_
  refine HL.val (Val.assign rfl) (by decide) ?_
  refine HL.val (Val.assign rfl) (by decide) ?_
  refine HL.val (Val.assign rfl) (by decide) ?_
  refine HL.nil ?_
  refine HQ.next ?_
  refine HC.seq ?_
  refine HC.region ?_
  refine HL.val (Val.move rfl) (by decide) ?_
  refine HL.val (Val.move rfl) (by decide) ?_
  refine HL.val (Val.move rfl) (by decide) ?_
  refine HL.call (f := 58) en58 rfl (mulH (dst1 3 rfl (.inl hb2)) (elh1 6 rfl) lx (elh1 7 rfl) ly) (by decide) ?_
  rintro r1 ⟨lr1, hr1⟩
  simp only [List.set_cons_zero, List.set_cons_succ]
  refine HL.nil ?_
  refine HQ.next ?_
  refine HC.seq ?_
  refine HC.region ?_
  refine HL.val (Val.move rfl) (by decide) ?_
  refine HL.val (Val.move rfl) (by decide) ?_
  refine HL.call (f := 57) en57 rfl (sqrH (dst1 2 rfl (.inl hb3)) (elh1 7 rfl) ly) (by decide) ?_
  rintro r2 ⟨lr2, hr2⟩
  simp only [List.set_cons_zero, List.set_cons_succ]
  refine HL.nil ?_
  refine HQ.next ?_
  refine HC.seq ?_
  refine HC.region ?_
  refine HL.val (Val.move rfl) (by decide) ?_
  refine HL.val (Val.move rfl) (by decide) ?_
  refine HL.val (Val.move rfl) (by decide) ?_
  refine HL.call (f := 58) en58 rfl (mulH (dst1 1 rfl (.inl hb4)) (elh1 3 rfl) lr1 (elh1 2 rfl) lr2) (by decide) ?_
  rintro r3 ⟨lr3, hr3⟩
  simp only [List.set_cons_zero, List.set_cons_succ]
  refine HL.nil ?_
  refine HQ.next ?_
  refine HC.seq ?_
  refine HC.region ?_
  refine HL.val (Val.move rfl) (by decide) ?_
  refine HL.val (Val.move rfl) (by decide) ?_
  refine HL.call (f := 57) en57 rfl (sqrH (dst1 3 rfl (.inl hb2)) (elh1 2 rfl) lr2) (by decide) ?_
  rintro r4 ⟨lr4, hr4⟩
  simp only [List.set_cons_zero, List.set_cons_succ]
  refine HL.nil ?_
  refine HQ.next ?_
  refine HC.seq ?_
  refine HC.region ?_
  refine HL.val (Val.move rfl) (by decide) ?_
  refine HL.val (Val.move rfl) (by decide) ?_
  refine HL.val (Val.move rfl) (by decide) ?_
  refine HL.call (f := 58) en58 rfl (mulH (dst1 2 rfl (.inl hb3)) (elh1 3 rfl) lr4 (elh1 1 rfl) lr3) (by decide) ?_
  rintro r5 ⟨lr5, hr5⟩
  simp only [List.set_cons_zero, List.set_cons_succ]
  refine HL.nil ?_
  refine HQ.next ?_
  refine HC.seq ?_
  refine HC.region ?_
  refine HL.new (New.alloc al83) (by decide) ?_
  intro b6 hb6
  refine HL.nil ?_
  refine HQ.next ?_
  refine HC.seq ?_
  refine HC.region ?_
  refine HL.val (Val.build rfl bz59) (by decide) ?_
  refine HL.new (New.box rfl) (by decide) ?_
  intro b7 hb7
  refine HL.val (Val.ixAddrQ 0 (i := 0) (m := 4) (s := 1) (e := 63) rfl rfl Try.underlying83 (by kernel_rfl) (by decide) (by decide)) (by decide) ?_
  refine HL.put 1 rfl (Put.four0 rfl rfl (by kernel_rfl) rfl) (.inl hb6) ?_
  simp only [List.set_cons_zero, List.set_cons_succ]
  refine HL.nil ?_
  refine HQ.next ?_
  refine HC.seq ?_
  refine HC.region ?_
  refine HL.val (Val.build rfl bz59) (by decide) ?_
  refine HL.new (New.box rfl) (by decide) ?_
  intro b8 hb8
  refine HL.val (Val.ixAddrQ 1 (i := 1) (m := 4) (s := 1) (e := 63) rfl rfl Try.underlying83 (by kernel_rfl) (by decide) (by decide)) (by decide) ?_
  refine HL.put 2 rfl (Put.four1 rfl rfl (by kernel_rfl) rfl) (.inl hb6) ?_
  simp only [List.set_cons_zero, List.set_cons_succ]
  refine HL.nil ?_
  refine HQ.next ?_
  refine HC.seq ?_
  refine HC.region ?_
  refine HL.val (Val.move rfl) (by decide) ?_
  refine HL.val (Val.ixAddrQ 2 (i := 2) (m := 4) (s := 1) (e := 63) rfl rfl Try.underlying83 (by kernel_rfl) (by decide) (by decide)) (by decide) ?_
  refine HL.put 2 rfl (Put.four2 rfl rfl (by kernel_rfl) rfl) (.inl hb6) ?_
  simp only [List.set_cons_zero, List.set_cons_succ]
  refine HL.nil ?_
  refine HQ.next ?_
  refine HC.seq ?_
  refine HC.region ?_
  refine HL.val (Val.move rfl) (by decide) ?_
  refine HL.val (Val.ixAddrQ 3 (i := 3) (m := 4) (s := 1) (e := 63) rfl rfl Try.underlying83 (by kernel_rfl) (by decide) (by decide)) (by decide) ?_
  refine HL.put 2 rfl (Put.four3 rfl rfl (by kernel_rfl) rfl) (.inl hb6) ?_
  simp only [List.set_cons_zero, List.set_cons_succ]
  refine HL.nil ?_
  refine HQ.next ?_
  refine HC.seq ?_
  refine HC.draw0 6 (by kernel_rfl) (by kernel_rfl) ?_
  simp only [List.take, List.drop]
  refine HV.val (Val.ixAddrQ 0 (i := 0) (m := 4) (s := 1) (e := 63) rfl rfl Try.underlying83 (by kernel_rfl) (by decide) (by decide)) (by decide) ?_
  refine HV.val (Val.load_cell rfl (fun w hw => hw.at (i := 2) rfl) rfl Try.underlying63 rfl) (by decide) ?_
  refine HV.val (Val.move rfl) (by decide) ?_
  refine HV.val (Val.nilCheck rfl) (by decide) ?_
  refine HV.val (Val.load_row rfl (fun w hw => hw.at (i := 5) rfl) Try.underlying59 rfl (sz59 _)) (by decide) ?_
  refine HV.val (Val.nilCheck rfl) (by decide) ?_
  refine HV.tail0 ?_
  refine HL.put 1 rfl (Put.row rfl rfl (sz59 _) (eqsz32 _ _) (one32 _)) (.inl hb7) ?_
  simp only [List.set_cons_zero, List.set_cons_succ]
  refine HL.nil ?_
  refine HQ.next ?_
  refine HC.seq ?_
  refine HC.region ?_
  refine HL.val (Val.ixAddrQ 0 (i := 0) (m := 4) (s := 1) (e := 63) rfl rfl Try.underlying83 (by kernel_rfl) (by decide) (by decide)) (by decide) ?_
  refine HL.val (Val.load_cell rfl (fun w hw => hw.at (i := 2) rfl) rfl Try.underlying63 rfl) (by decide) ?_
  refine HL.val (Val.ixAddrQ 0 (i := 0) (m := 4) (s := 1) (e := 63) rfl rfl Try.underlying83 (by kernel_rfl) (by decide) (by decide)) (by decide) ?_
  refine HL.val (Val.load_cell rfl (fun w hw => hw.at (i := 2) rfl) rfl Try.underlying63 rfl) (by decide) ?_
  refine HL.call (f := 57) en57 rfl (sqrH (dst1 1 rfl (.inl hb7)) (elh1 1 rfl) lr5) (by decide) ?_
  rintro r6 ⟨lr6, hr6⟩
  simp only [List.set_cons_zero, List.set_cons_succ]
  have pr6 : PowIs r5 r6 2 := PowIs.sqr 1 2 hr6 (PowIs.one r5) (by decide)
  refine HL.nil ?_
  refine HQ.next ?_
  refine HC.seq ?_
  refine HC.region ?_
  refine HL.val (Val.ixAddrQ 1 (i := 1) (m := 4) (s := 1) (e := 63) rfl rfl Try.underlying83 (by kernel_rfl) (by decide) (by decide)) (by decide) ?_
  refine HL.val (Val.load_cell rfl (fun w hw => hw.at (i := 2) rfl) rfl Try.underlying63 rfl) (by decide) ?_
  refine HL.val (Val.ixAddrQ 0 (i := 0) (m := 4) (s := 1) (e := 63) rfl rfl Try.underlying83 (by kernel_rfl) (by decide) (by decide)) (by decide) ?_
  refine HL.val (Val.load_cell rfl (fun w hw => hw.at (i := 2) rfl) rfl Try.underlying63 rfl) (by decide) ?_
  refine HL.call (f := 57) en57 rfl (sqrH (dst1 0 rfl (.inl hb8)) (elh1 1 rfl) lr6) (by decide) ?_
  rintro r7 ⟨lr7, hr7⟩
  simp only [List.set_cons_zero]
  have pr7 : PowIs r5 r7 4 := PowIs.sqr 2 4 hr7 pr6 (by decide)
  refine HL.nil ?_
  refine HQ.next ?_
  refine HC.seq ?_
  refine HC.region ?_
  refine HL.val (Val.ixAddrQ 1 (i := 1) (m := 4) (s := 1) (e := 63) rfl rfl Try.underlying83 (by kernel_rfl) (by decide) (by decide)) (by decide) ?_
  refine HL.val (Val.load_cell rfl (fun w hw => hw.at (i := 2) rfl) rfl Try.underlying63 rfl) (by decide) ?_
  refine HL.val (Val.ixAddrQ 1 (i := 1) (m := 4) (s := 1) (e := 63) rfl rfl Try.underlying83 (by kernel_rfl) (by decide) (by decide)) (by decide) ?_
  refine HL.val (Val.load_cell rfl (fun w hw => hw.at (i := 2) rfl) rfl Try.underlying63 rfl) (by decide) ?_
  refine HL.call (f := 57) en57 rfl (sqrH (dst1 0 rfl (.inl hb8)) (elh1 0 rfl) lr7) (by decide) ?_
  rintro r8 ⟨lr8, hr8⟩
  simp only [List.set_cons_zero]
  have pr8 : PowIs r5 r8 8 := PowIs.sqr 4 8 hr8 pr7 (by decide)
  refine HL.nil ?_
  refine HQ.next ?_
  refine HC.seq ?_
  refine HC.region ?_
  refine HL.val (Val.ixAddrQ 1 (i := 1) (m := 4) (s := 1) (e := 63) rfl rfl Try.underlying83 (by kernel_rfl) (by decide) (by decide)) (by decide) ?_
  refine HL.val (Val.load_cell rfl (fun w hw => hw.at (i := 2) rfl) rfl Try.underlying63 rfl) (by decide) ?_
  refine HL.val (Val.ixAddrQ 1 (i := 1) (m := 4) (s := 1) (e := 63) rfl rfl Try.underlying83 (by kernel_rfl) (by decide) (by decide)) (by decide) ?_
  refine HL.val (Val.load_cell rfl (fun w hw => hw.at (i := 2) rfl) rfl Try.underlying63 rfl) (by decide) ?_
  refine HL.val (Val.ixAddrQ 3 (i := 3) (m := 4) (s := 1) (e := 63) rfl rfl Try.underlying83 (by kernel_rfl) (by decide) (by decide)) (by decide) ?_
  refine HL.val (Val.load_cell rfl (fun w hw => hw.at (i := 2) rfl) rfl Try.underlying63 rfl) (by decide) ?_
  refine HL.call (f := 58) en58 rfl (mulH (dst1 0 rfl (.inl hb8)) (elh1 0 rfl) lr8 (elh1 5 rfl) lr5) (by decide) ?_
  rintro r9 ⟨lr9, hr9⟩
  simp only [List.set_cons_zero]
  have pr9 : PowIs r5 r9 9 := PowIs.mul 8 1 9 hr9 pr8 (PowIs.one r5) (by decide)
  refine HL.nil ?_
  refine HQ.next ?_
  refine HC.seq ?_
  refine HC.region ?_
  refine HL.val (Val.ixAddrQ 0 (i := 0) (m := 4) (s := 1) (e := 63) rfl rfl Try.underlying83 (by kernel_rfl) (by decide) (by decide)) (by decide) ?_
  refine HL.val (Val.load_cell rfl (fun w hw => hw.at (i := 2) rfl) rfl Try.underlying63 rfl) (by decide) ?_
  refine HL.val (Val.ixAddrQ 0 (i := 0) (m := 4) (s := 1) (e := 63) rfl rfl Try.underlying83 (by kernel_rfl) (by decide) (by decide)) (by decide) ?_
  refine HL.val (Val.load_cell rfl (fun w hw => hw.at (i := 2) rfl) rfl Try.underlying63 rfl) (by decide) ?_
  refine HL.val (Val.ixAddrQ 1 (i := 1) (m := 4) (s := 1) (e := 63) rfl rfl Try.underlying83 (by kernel_rfl) (by decide) (by decide)) (by decide) ?_
  refine HL.val (Val.load_cell rfl (fun w hw => hw.at (i := 2) rfl) rfl Try.underlying63 rfl) (by decide) ?_
  refine HL.call (f := 58) en58 rfl (mulH (dst1 1 rfl (.inl hb7)) (elh1 1 rfl) lr6 (elh1 0 rfl) lr9) (by decide) ?_
  rintro r10 ⟨lr10, hr10⟩
  simp only [List.set_cons_zero, List.set_cons_succ]
  have pr10 : PowIs r5 r10 11 := PowIs.mul 2 9 11 hr10 pr6 pr9 (by decide)
  refine HL.nil ?_
  refine HQ.next ?_
  refine HC.seq ?_
  refine HC.region ?_
  refine HL.val (Val.ixAddrQ 0 (i := 0) (m := 4) (s := 1) (e := 63) rfl rfl Try.underlying83 (by kernel_rfl) (by decide) (by decide)) (by decide) ?_
  refine HL.val (Val.load_cell rfl (fun w hw => hw.at (i := 2) rfl) rfl Try.underlying63 rfl) (by decide) ?_
  refine HL.val (Val.ixAddrQ 0 (i := 0) (m := 4) (s := 1) (e := 63) rfl rfl Try.underlying83 (by kernel_rfl) (by decide) (by decide)) (by decide) ?_
  refine HL.val (Val.load_cell rfl (fun w hw => hw.at (i := 2) rfl) rfl Try.underlying63 rfl) (by decide) ?_
  refine HL.call (f := 57) en57 rfl (sqrH (dst1 1 rfl (.inl hb7)) (elh1 1 rfl) lr10) (by decide) ?_
  rintro r11 ⟨lr11, hr11⟩
  simp only [List.set_cons_zero, List.set_cons_succ]
  have pr11 : PowIs r5 r11 22 := PowIs.sqr 11 22 hr11 pr10 (by decide)
  refine HL.nil ?_
  refine HQ.next ?_
  refine HC.seq ?_
  refine HC.region ?_
  refine HL.val (Val.ixAddrQ 0 (i := 0) (m := 4) (s := 1) (e := 63) rfl rfl Try.underlying83 (by kernel_rfl) (by decide) (by decide)) (by decide) ?_
  refine HL.val (Val.load_cell rfl (fun w hw => hw.at (i := 2) rfl) rfl Try.underlying63 rfl) (by decide) ?_
  refine HL.val (Val.ixAddrQ 0 (i := 0) (m := 4) (s := 1) (e := 63) rfl rfl Try.underlying83 (by kernel_rfl) (by decide) (by decide)) (by decide) ?_
  refine HL.val (Val.load_cell rfl (fun w hw => hw.at (i := 2) rfl) rfl Try.underlying63 rfl) (by decide) ?_
  refine HL.val (Val.ixAddrQ 1 (i := 1) (m := 4) (s := 1) (e := 63) rfl rfl Try.underlying83 (by kernel_rfl) (by decide) (by decide)) (by decide) ?_
  refine HL.val (Val.load_cell rfl (fun w hw => hw.at (i := 2) rfl) rfl Try.underlying63 rfl) (by decide) ?_
  refine HL.call (f := 58) en58 rfl (mulH (dst1 1 rfl (.inl hb7)) (elh1 1 rfl) lr11 (elh1 0 rfl) lr9) (by decide) ?_
  rintro r12 ⟨lr12, hr12⟩
  simp only [List.set_cons_zero, List.set_cons_succ]
  have pr12 : PowIs r5 r12 31 := PowIs.mul 22 9 31 hr12 pr11 pr9 (by decide)
  refine HL.nil ?_
  refine HQ.next ?_
  refine HC.seq ?_
  refine HC.region ?_
  refine HL.val (Val.ixAddrQ 1 (i := 1) (m := 4) (s := 1) (e := 63) rfl rfl Try.underlying83 (by kernel_rfl) (by decide) (by decide)) (by decide) ?_
  refine HL.val (Val.load_cell rfl (fun w hw => hw.at (i := 2) rfl) rfl Try.underlying63 rfl) (by decide) ?_
  refine HL.val (Val.ixAddrQ 0 (i := 0) (m := 4) (s := 1) (e := 63) rfl rfl Try.underlying83 (by kernel_rfl) (by decide) (by decide)) (by decide) ?_
  refine HL.val (Val.load_cell rfl (fun w hw => hw.at (i := 2) rfl) rfl Try.underlying63 rfl) (by decide) ?_
  refine HL.call (f := 57) en57 rfl (sqrH (dst1 0 rfl (.inl hb8)) (elh1 1 rfl) lr12) (by decide) ?_
  rintro r13 ⟨lr13, hr13⟩
  simp only [List.set_cons_zero]
  have pr13 : PowIs r5 r13 62 := PowIs.sqr 31 62 hr13 pr12 (by decide)
  refine HL.nil ?_
  refine HQ.next ?_
  refine HC.seq ?_
  refine HC.seq ?_
  refine HC.region ?_
  refine HL.val (Val.assign rfl) (by decide) ?_
  refine HL.nil ?_
  refine HQ.next ?_
  refine HC.block ?_
  refine HC.loop (ι := {p : Nat × Nat // p.1 ≤ 4 ∧ p.2 < 2 ^ 256 ∧ PowIs r5 p.2 (62 * 2 ^ p.1)}) (fun p => 4 - p.1.1) (fun p => [(13, .int .i64 (p.1.1 : Int)), (0, .pointer (some ⟨bz, 0, none⟩)), (1, .pointer (some ⟨bx, 0, none⟩)), (2, .pointer (some ⟨by', 0, none⟩)), (7, .pointer (some ⟨b1, 0, none⟩)), (8, .pointer (some ⟨b2, 0, none⟩)), (9, .pointer (some ⟨b3, 0, none⟩)), (10, .pointer (some ⟨b4, 0, none⟩)), (11, .pointer (some ⟨b5, 0, none⟩)), (12, .pointer (some ⟨b6, 0, none⟩))]) (fun p => [(b8, .cells (byA 32 p.1.2) 59 (0, 0)), (b7, .cells (byA 32 r12) 59 (0, 0)), (b6, .cells #[.pointer (some ⟨b7, 0, none⟩), .pointer (some ⟨b8, 0, none⟩), .pointer (some ⟨b5, 0, none⟩), .pointer (some ⟨b3, 0, none⟩)] 83 (0, 0)), (b5, .cells (byA 32 0) 59 (0, 0)), (b4, .cells (byA 32 r3) 59 (0, 0)), (b3, .cells (byA 32 r5) 59 (0, 0)), (b2, .cells (byA 32 r4) 59 (0, 0)), (b1, .cells (byA 32 19681161376707505956807079304988542015446066515923890162744021073123829784752) 59 (0, 0)), (bz, .cells (byA 32 z) Tz (0, 0)), (bx, .cells (byA 32 x) Tx (0, 0)), (by', .cells (byA 32 y) Ty (0, 0))]) ⟨(0, r13), Nat.zero_le _, lr13, pr13⟩ (fun a w ha hw => ⟨ha.subS ⟨rfl, rfl, rfl, rfl, rfl, rfl, rfl, rfl, rfl, rfl, trivial⟩, hw⟩) ?_
  rintro ⟨⟨k14, r14⟩, hk14, lr14, pr14⟩
  dsimp only at hk14 lr14 pr14 ⊢
  refine HC.seq ?_
  refine HC.seq ?_
  refine HC.region ?_
  refine HL.val (Val.move rfl) (by decide) ?_
  by_cases hlt14 : k14 < 4
  · refine HL.val ((Val.lss rfl rfl).as (congrArg Value.bool ((lssN k14 4).trans (decide_eq_true hlt14)))) (by decide) ?_
    refine HL.nil ?_
    refine HQ.next ?_
    refine HC.yes rfl ?_
    refine HC.skip ?_
    refine HQ.next ?_
    refine HC.seq ?_
    refine HC.block ?_
    refine HC.region ?_
    refine HL.val (Val.ixAddrQ 1 (i := 1) (m := 4) (s := 1) (e := 63) rfl rfl Try.underlying83 (by kernel_rfl) (by decide) (by decide)) (by decide) ?_
    refine HL.val (Val.load_cell rfl (fun w hw => hw.at (i := 2) rfl) rfl Try.underlying63 rfl) (by decide) ?_
    refine HL.val (Val.ixAddrQ 1 (i := 1) (m := 4) (s := 1) (e := 63) rfl rfl Try.underlying83 (by kernel_rfl) (by decide) (by decide)) (by decide) ?_
    refine HL.val (Val.load_cell rfl (fun w hw => hw.at (i := 2) rfl) rfl Try.underlying63 rfl) (by decide) ?_
    refine HL.call (f := 57) en57 rfl (sqrH (dst1 0 rfl (.inl hb8)) (elh1 0 rfl) lr14) (by decide) ?_
    rintro r15 ⟨lr15, hr15⟩
    simp only [List.set_cons_zero]
    refine HL.nil ?_
    refine HQ.blockNormal ?_
    refine HQ.next ?_
    refine HC.region ?_
    refine HL.val (Val.move rfl) (by decide) ?_
    refine HL.val ((Val.addI rfl rfl).as (congrArg (Value.int .i64) (wrap1 k14 (by omega)))) (by decide) ?_
    refine HL.val (Val.assign rfl) (by decide) ?_
    refine HL.nil ?_
    exact ⟨fun a w ha hw => ⟨⟨(k14 + 1, r15), by omega, lr15, PowIs.step _ _ hr15 pr14⟩, by dsimp only; omega, ha.subS ⟨rfl, rfl, rfl, rfl, rfl, rfl, rfl, rfl, rfl, rfl, trivial⟩, hw⟩⟩
  · refine HL.val ((Val.lss rfl rfl).as (congrArg Value.bool ((lssN k14 4).trans (decide_eq_false hlt14)))) (by decide) ?_
    refine HL.nil ?_
    refine HQ.next ?_
    refine HC.no rfl ?_
    refine HC.exit ?_
    obtain rfl : k14 = 4 := by omega
    have qr14 : PowIs r5 r14 992 := pr14
    refine HQ.thenExit ?_
    refine HQ.thenExit ?_
    refine HQ.blockExit ?_
    refine HQ.next ?_
    refine HC.seq ?_
    refine HC.region ?_
    refine HL.val (Val.ixAddrQ 1 (i := 1) (m := 4) (s := 1) (e := 63) rfl rfl Try.underlying83 (by kernel_rfl) (by decide) (by decide)) (by decide) ?_
    refine HL.val (Val.load_cell rfl (fun w hw => hw.at (i := 2) rfl) rfl Try.underlying63 rfl) (by decide) ?_
    refine HL.val (Val.ixAddrQ 1 (i := 1) (m := 4) (s := 1) (e := 63) rfl rfl Try.underlying83 (by kernel_rfl) (by decide) (by decide)) (by decide) ?_
    refine HL.val (Val.load_cell rfl (fun w hw => hw.at (i := 2) rfl) rfl Try.underlying63 rfl) (by decide) ?_
    refine HL.val (Val.ixAddrQ 0 (i := 0) (m := 4) (s := 1) (e := 63) rfl rfl Try.underlying83 (by kernel_rfl) (by decide) (by decide)) (by decide) ?_
    refine HL.val (Val.load_cell rfl (fun w hw => hw.at (i := 2) rfl) rfl Try.underlying63 rfl) (by decide) ?_
    refine HL.call (f := 58) en58 rfl (mulH (dst1 0 rfl (.inl hb8)) (elh1 0 rfl) lr14 (elh1 1 rfl) lr12) (by decide) ?_
    rintro r15 ⟨lr15, hr15⟩
    simp only [List.set_cons_zero]
    have pr15 : PowIs r5 r15 1023 := PowIs.mul 992 31 1023 hr15 qr14 pr12 (by decide)
    refine HL.nil ?_
    refine HQ.next ?_
    refine HC.seq ?_
    refine HC.region ?_
    refine HL.val (Val.ixAddrQ 2 (i := 2) (m := 4) (s := 1) (e := 63) rfl rfl Try.underlying83 (by kernel_rfl) (by decide) (by decide)) (by decide) ?_
    refine HL.val (Val.load_cell rfl (fun w hw => hw.at (i := 2) rfl) rfl Try.underlying63 rfl) (by decide) ?_
    refine HL.val (Val.ixAddrQ 1 (i := 1) (m := 4) (s := 1) (e := 63) rfl rfl Try.underlying83 (by kernel_rfl) (by decide) (by decide)) (by decide) ?_
    refine HL.val (Val.load_cell rfl (fun w hw => hw.at (i := 2) rfl) rfl Try.underlying63 rfl) (by decide) ?_
    refine HL.call (f := 57) en57 rfl (sqrH (dst1 3 rfl (.inl hb5)) (elh1 0 rfl) lr15) (by decide) ?_
    rintro r16 ⟨lr16, hr16⟩
    simp only [List.set_cons_zero, List.set_cons_succ]
    have pr16 : PowIs r5 r16 2046 := PowIs.sqr 1023 2046 hr16 pr15 (by decide)
    refine HL.nil ?_
    refine HQ.next ?_
    refine HC.seq ?_
    refine HC.seq ?_
    refine HC.region ?_
    refine HL.val (Val.assign rfl) (by decide) ?_
    refine HL.nil ?_
    refine HQ.next ?_
    refine HC.block ?_
    refine HC.loop (ι := {p : Nat × Nat // p.1 ≤ 4 ∧ p.2 < 2 ^ 256 ∧ PowIs r5 p.2 (2046 * 2 ^ p.1)}) (fun p => 4 - p.1.1) (fun p => [(14, .int .i64 (p.1.1 : Int)), (0, .pointer (some ⟨bz, 0, none⟩)), (1, .pointer (some ⟨bx, 0, none⟩)), (2, .pointer (some ⟨by', 0, none⟩)), (7, .pointer (some ⟨b1, 0, none⟩)), (8, .pointer (some ⟨b2, 0, none⟩)), (9, .pointer (some ⟨b3, 0, none⟩)), (10, .pointer (some ⟨b4, 0, none⟩)), (11, .pointer (some ⟨b5, 0, none⟩)), (12, .pointer (some ⟨b6, 0, none⟩))]) (fun p => [(b8, .cells (byA 32 r15) 59 (0, 0)), (b7, .cells (byA 32 r12) 59 (0, 0)), (b6, .cells #[.pointer (some ⟨b7, 0, none⟩), .pointer (some ⟨b8, 0, none⟩), .pointer (some ⟨b5, 0, none⟩), .pointer (some ⟨b3, 0, none⟩)] 83 (0, 0)), (b5, .cells (byA 32 p.1.2) 59 (0, 0)), (b4, .cells (byA 32 r3) 59 (0, 0)), (b3, .cells (byA 32 r5) 59 (0, 0)), (b2, .cells (byA 32 r4) 59 (0, 0)), (b1, .cells (byA 32 19681161376707505956807079304988542015446066515923890162744021073123829784752) 59 (0, 0)), (bz, .cells (byA 32 z) Tz (0, 0)), (bx, .cells (byA 32 x) Tx (0, 0)), (by', .cells (byA 32 y) Ty (0, 0))]) ⟨(0, r16), Nat.zero_le _, lr16, pr16⟩ (fun a w ha hw => ⟨ha.subS ⟨rfl, rfl, rfl, rfl, rfl, rfl, rfl, rfl, rfl, rfl, trivial⟩, hw⟩) ?_
    rintro ⟨⟨k17, r17⟩, hk17, lr17, pr17⟩
    dsimp only at hk17 lr17 pr17 ⊢
    refine HC.seq ?_
    refine HC.seq ?_
    refine HC.region ?_
    refine HL.val (Val.move rfl) (by decide) ?_
    by_cases hlt17 : k17 < 4
    · refine HL.val ((Val.lss rfl rfl).as (congrArg Value.bool ((lssN k17 4).trans (decide_eq_true hlt17)))) (by decide) ?_
      refine HL.nil ?_
      refine HQ.next ?_
      refine HC.yes rfl ?_
      refine HC.skip ?_
      refine HQ.next ?_
      refine HC.seq ?_
      refine HC.block ?_
      refine HC.region ?_
      refine HL.val (Val.ixAddrQ 2 (i := 2) (m := 4) (s := 1) (e := 63) rfl rfl Try.underlying83 (by kernel_rfl) (by decide) (by decide)) (by decide) ?_
      refine HL.val (Val.load_cell rfl (fun w hw => hw.at (i := 2) rfl) rfl Try.underlying63 rfl) (by decide) ?_
      refine HL.val (Val.ixAddrQ 2 (i := 2) (m := 4) (s := 1) (e := 63) rfl rfl Try.underlying83 (by kernel_rfl) (by decide) (by decide)) (by decide) ?_
      refine HL.val (Val.load_cell rfl (fun w hw => hw.at (i := 2) rfl) rfl Try.underlying63 rfl) (by decide) ?_
      refine HL.call (f := 57) en57 rfl (sqrH (dst1 3 rfl (.inl hb5)) (elh1 3 rfl) lr17) (by decide) ?_
      rintro r18 ⟨lr18, hr18⟩
      simp only [List.set_cons_zero, List.set_cons_succ]
      refine HL.nil ?_
      refine HQ.blockNormal ?_
      refine HQ.next ?_
      refine HC.region ?_
      refine HL.val (Val.move rfl) (by decide) ?_
      refine HL.val ((Val.addI rfl rfl).as (congrArg (Value.int .i64) (wrap1 k17 (by omega)))) (by decide) ?_
      refine HL.val (Val.assign rfl) (by decide) ?_
      refine HL.nil ?_
      exact ⟨fun a w ha hw => ⟨⟨(k17 + 1, r18), by omega, lr18, PowIs.step _ _ hr18 pr17⟩, by dsimp only; omega, ha.subS ⟨rfl, rfl, rfl, rfl, rfl, rfl, rfl, rfl, rfl, rfl, trivial⟩, hw⟩⟩
    · refine HL.val ((Val.lss rfl rfl).as (congrArg Value.bool ((lssN k17 4).trans (decide_eq_false hlt17)))) (by decide) ?_
      refine HL.nil ?_
      refine HQ.next ?_
      refine HC.no rfl ?_
      refine HC.exit ?_
      obtain rfl : k17 = 4 := by omega
      have qr17 : PowIs r5 r17 32736 := pr17
      refine HQ.thenExit ?_
      refine HQ.thenExit ?_
      refine HQ.blockExit ?_
      refine HQ.next ?_
      refine HC.seq ?_
      refine HC.region ?_
      refine HL.val (Val.ixAddrQ 2 (i := 2) (m := 4) (s := 1) (e := 63) rfl rfl Try.underlying83 (by kernel_rfl) (by decide) (by decide)) (by decide) ?_
      refine HL.val (Val.load_cell rfl (fun w hw => hw.at (i := 2) rfl) rfl Try.underlying63 rfl) (by decide) ?_
      refine HL.val (Val.ixAddrQ 2 (i := 2) (m := 4) (s := 1) (e := 63) rfl rfl Try.underlying83 (by kernel_rfl) (by decide) (by decide)) (by decide) ?_
      refine HL.val (Val.load_cell rfl (fun w hw => hw.at (i := 2) rfl) rfl Try.underlying63 rfl) (by decide) ?_
      refine HL.val (Val.ixAddrQ 0 (i := 0) (m := 4) (s := 1) (e := 63) rfl rfl Try.underlying83 (by kernel_rfl) (by decide) (by decide)) (by decide) ?_
      refine HL.val (Val.load_cell rfl (fun w hw => hw.at (i := 2) rfl) rfl Try.underlying63 rfl) (by decide) ?_
      refine HL.call (f := 58) en58 rfl (mulH (dst1 3 rfl (.inl hb5)) (elh1 3 rfl) lr17 (elh1 1 rfl) lr12) (by decide) ?_
      rintro r18 ⟨lr18, hr18⟩
      simp only [List.set_cons_zero, List.set_cons_succ]
      have pr18 : PowIs r5 r18 32767 := PowIs.mul 32736 31 32767 hr18 qr17 pr12 (by decide)
      refine HL.nil ?_
      refine HQ.next ?_
      refine HC.seq ?_
      refine HC.region ?_
      refine HL.val (Val.ixAddrQ 1 (i := 1) (m := 4) (s := 1) (e := 63) rfl rfl Try.underlying83 (by kernel_rfl) (by decide) (by decide)) (by decide) ?_
      refine HL.val (Val.load_cell rfl (fun w hw => hw.at (i := 2) rfl) rfl Try.underlying63 rfl) (by decide) ?_
      refine HL.val (Val.ixAddrQ 2 (i := 2) (m := 4) (s := 1) (e := 63) rfl rfl Try.underlying83 (by kernel_rfl) (by decide) (by decide)) (by decide) ?_
      refine HL.val (Val.load_cell rfl (fun w hw => hw.at (i := 2) rfl) rfl Try.underlying63 rfl) (by decide) ?_
      refine HL.call (f := 57) en57 rfl (sqrH (dst1 0 rfl (.inl hb8)) (elh1 3 rfl) lr18) (by decide) ?_
      rintro r19 ⟨lr19, hr19⟩
      simp only [List.set_cons_zero]
      have pr19 : PowIs r5 r19 65534 := PowIs.sqr 32767 65534 hr19 pr18 (by decide)
      refine HL.nil ?_
      refine HQ.next ?_
      refine HC.seq ?_
      refine HC.seq ?_
      refine HC.region ?_
      refine HL.val (Val.assign rfl) (by decide) ?_
      refine HL.nil ?_
      refine HQ.next ?_
      refine HC.block ?_
      refine HC.loop (ι := {p : Nat × Nat // p.1 ≤ 14 ∧ p.2 < 2 ^ 256 ∧ PowIs r5 p.2 (65534 * 2 ^ p.1)}) (fun p => 14 - p.1.1) (fun p => [(15, .int .i64 (p.1.1 : Int)), (0, .pointer (some ⟨bz, 0, none⟩)), (1, .pointer (some ⟨bx, 0, none⟩)), (2, .pointer (some ⟨by', 0, none⟩)), (7, .pointer (some ⟨b1, 0, none⟩)), (8, .pointer (some ⟨b2, 0, none⟩)), (9, .pointer (some ⟨b3, 0, none⟩)), (10, .pointer (some ⟨b4, 0, none⟩)), (11, .pointer (some ⟨b5, 0, none⟩)), (12, .pointer (some ⟨b6, 0, none⟩))]) (fun p => [(b8, .cells (byA 32 p.1.2) 59 (0, 0)), (b7, .cells (byA 32 r12) 59 (0, 0)), (b6, .cells #[.pointer (some ⟨b7, 0, none⟩), .pointer (some ⟨b8, 0, none⟩), .pointer (some ⟨b5, 0, none⟩), .pointer (some ⟨b3, 0, none⟩)] 83 (0, 0)), (b5, .cells (byA 32 r18) 59 (0, 0)), (b4, .cells (byA 32 r3) 59 (0, 0)), (b3, .cells (byA 32 r5) 59 (0, 0)), (b2, .cells (byA 32 r4) 59 (0, 0)), (b1, .cells (byA 32 19681161376707505956807079304988542015446066515923890162744021073123829784752) 59 (0, 0)), (bz, .cells (byA 32 z) Tz (0, 0)), (bx, .cells (byA 32 x) Tx (0, 0)), (by', .cells (byA 32 y) Ty (0, 0))]) ⟨(0, r19), Nat.zero_le _, lr19, pr19⟩ (fun a w ha hw => ⟨ha.subS ⟨rfl, rfl, rfl, rfl, rfl, rfl, rfl, rfl, rfl, rfl, trivial⟩, hw⟩) ?_
      rintro ⟨⟨k20, r20⟩, hk20, lr20, pr20⟩
      dsimp only at hk20 lr20 pr20 ⊢
      refine HC.seq ?_
      refine HC.seq ?_
      refine HC.region ?_
      refine HL.val (Val.move rfl) (by decide) ?_
      by_cases hlt20 : k20 < 14
      · refine HL.val ((Val.lss rfl rfl).as (congrArg Value.bool ((lssN k20 14).trans (decide_eq_true hlt20)))) (by decide) ?_
        refine HL.nil ?_
        refine HQ.next ?_
        refine HC.yes rfl ?_
        refine HC.skip ?_
        refine HQ.next ?_
        refine HC.seq ?_
        refine HC.block ?_
        refine HC.region ?_
        refine HL.val (Val.ixAddrQ 1 (i := 1) (m := 4) (s := 1) (e := 63) rfl rfl Try.underlying83 (by kernel_rfl) (by decide) (by decide)) (by decide) ?_
        refine HL.val (Val.load_cell rfl (fun w hw => hw.at (i := 2) rfl) rfl Try.underlying63 rfl) (by decide) ?_
        refine HL.val (Val.ixAddrQ 1 (i := 1) (m := 4) (s := 1) (e := 63) rfl rfl Try.underlying83 (by kernel_rfl) (by decide) (by decide)) (by decide) ?_
        refine HL.val (Val.load_cell rfl (fun w hw => hw.at (i := 2) rfl) rfl Try.underlying63 rfl) (by decide) ?_
        refine HL.call (f := 57) en57 rfl (sqrH (dst1 0 rfl (.inl hb8)) (elh1 0 rfl) lr20) (by decide) ?_
        rintro r21 ⟨lr21, hr21⟩
        simp only [List.set_cons_zero]
        refine HL.nil ?_
        refine HQ.blockNormal ?_
        refine HQ.next ?_
        refine HC.region ?_
        refine HL.val (Val.move rfl) (by decide) ?_
        refine HL.val ((Val.addI rfl rfl).as (congrArg (Value.int .i64) (wrap1 k20 (by omega)))) (by decide) ?_
        refine HL.val (Val.assign rfl) (by decide) ?_
        refine HL.nil ?_
        exact ⟨fun a w ha hw => ⟨⟨(k20 + 1, r21), by omega, lr21, PowIs.step _ _ hr21 pr20⟩, by dsimp only; omega, ha.subS ⟨rfl, rfl, rfl, rfl, rfl, rfl, rfl, rfl, rfl, rfl, trivial⟩, hw⟩⟩
      · refine HL.val ((Val.lss rfl rfl).as (congrArg Value.bool ((lssN k20 14).trans (decide_eq_false hlt20)))) (by decide) ?_
        refine HL.nil ?_
        refine HQ.next ?_
        refine HC.no rfl ?_
        refine HC.exit ?_
        obtain rfl : k20 = 14 := by omega
        have qr20 : PowIs r5 r20 1073709056 := (show 65534 * 2 ^ 14 = 1073709056 by decide) ▸ pr20
        refine HQ.thenExit ?_
        refine HQ.thenExit ?_
        refine HQ.blockExit ?_
        refine HQ.next ?_
        refine HC.seq ?_
        refine HC.region ?_
        refine HL.val (Val.ixAddrQ 1 (i := 1) (m := 4) (s := 1) (e := 63) rfl rfl Try.underlying83 (by kernel_rfl) (by decide) (by decide)) (by decide) ?_
        refine HL.val (Val.load_cell rfl (fun w hw => hw.at (i := 2) rfl) rfl Try.underlying63 rfl) (by decide) ?_
        refine HL.val (Val.ixAddrQ 1 (i := 1) (m := 4) (s := 1) (e := 63) rfl rfl Try.underlying83 (by kernel_rfl) (by decide) (by decide)) (by decide) ?_
        refine HL.val (Val.load_cell rfl (fun w hw => hw.at (i := 2) rfl) rfl Try.underlying63 rfl) (by decide) ?_
        refine HL.val (Val.ixAddrQ 2 (i := 2) (m := 4) (s := 1) (e := 63) rfl rfl Try.underlying83 (by kernel_rfl) (by decide) (by decide)) (by decide) ?_
        refine HL.val (Val.load_cell rfl (fun w hw => hw.at (i := 2) rfl) rfl Try.underlying63 rfl) (by decide) ?_
        refine HL.call (f := 58) en58 rfl (mulH (dst1 0 rfl (.inl hb8)) (elh1 0 rfl) lr20 (elh1 3 rfl) lr18) (by decide) ?_
        rintro r21 ⟨lr21, hr21⟩
        simp only [List.set_cons_zero]
        have pr21 : PowIs r5 r21 1073741823 := PowIs.mul 1073709056 32767 1073741823 hr21 qr20 pr18 (by decide)
        refine HL.nil ?_
        refine HQ.next ?_
        refine HC.seq ?_
        refine HC.region ?_
        refine HL.val (Val.ixAddrQ 2 (i := 2) (m := 4) (s := 1) (e := 63) rfl rfl Try.underlying83 (by kernel_rfl) (by decide) (by decide)) (by decide) ?_
        refine HL.val (Val.load_cell rfl (fun w hw => hw.at (i := 2) rfl) rfl Try.underlying63 rfl) (by decide) ?_
        refine HL.val (Val.ixAddrQ 1 (i := 1) (m := 4) (s := 1) (e := 63) rfl rfl Try.underlying83 (by kernel_rfl) (by decide) (by decide)) (by decide) ?_
        refine HL.val (Val.load_cell rfl (fun w hw => hw.at (i := 2) rfl) rfl Try.underlying63 rfl) (by decide) ?_
        refine HL.call (f := 57) en57 rfl (sqrH (dst1 3 rfl (.inl hb5)) (elh1 0 rfl) lr21) (by decide) ?_
        rintro r22 ⟨lr22, hr22⟩
        simp only [List.set_cons_zero, List.set_cons_succ]
        have pr22 : PowIs r5 r22 2147483646 := PowIs.sqr 1073741823 2147483646 hr22 pr21 (by decide)
        refine HL.nil ?_
        refine HQ.next ?_
        refine HC.seq ?_
        refine HC.seq ?_
        refine HC.region ?_
        refine HL.val (Val.assign rfl) (by decide) ?_
        refine HL.nil ?_
        refine HQ.next ?_
        refine HC.block ?_
        refine HC.loop (ι := {p : Nat × Nat // p.1 ≤ 29 ∧ p.2 < 2 ^ 256 ∧ PowIs r5 p.2 (2147483646 * 2 ^ p.1)}) (fun p => 29 - p.1.1) (fun p => [(16, .int .i64 (p.1.1 : Int)), (0, .pointer (some ⟨bz, 0, none⟩)), (1, .pointer (some ⟨bx, 0, none⟩)), (2, .pointer (some ⟨by', 0, none⟩)), (7, .pointer (some ⟨b1, 0, none⟩)), (8, .pointer (some ⟨b2, 0, none⟩)), (9, .pointer (some ⟨b3, 0, none⟩)), (10, .pointer (some ⟨b4, 0, none⟩)), (11, .pointer (some ⟨b5, 0, none⟩)), (12, .pointer (some ⟨b6, 0, none⟩))]) (fun p => [(b8, .cells (byA 32 r21) 59 (0, 0)), (b7, .cells (byA 32 r12) 59 (0, 0)), (b6, .cells #[.pointer (some ⟨b7, 0, none⟩), .pointer (some ⟨b8, 0, none⟩), .pointer (some ⟨b5, 0, none⟩), .pointer (some ⟨b3, 0, none⟩)] 83 (0, 0)), (b5, .cells (byA 32 p.1.2) 59 (0, 0)), (b4, .cells (byA 32 r3) 59 (0, 0)), (b3, .cells (byA 32 r5) 59 (0, 0)), (b2, .cells (byA 32 r4) 59 (0, 0)), (b1, .cells (byA 32 19681161376707505956807079304988542015446066515923890162744021073123829784752) 59 (0, 0)), (bz, .cells (byA 32 z) Tz (0, 0)), (bx, .cells (byA 32 x) Tx (0, 0)), (by', .cells (byA 32 y) Ty (0, 0))]) ⟨(0, r22), Nat.zero_le _, lr22, pr22⟩ (fun a w ha hw => ⟨ha.subS ⟨rfl, rfl, rfl, rfl, rfl, rfl, rfl, rfl, rfl, rfl, trivial⟩, hw⟩) ?_
        rintro ⟨⟨k23, r23⟩, hk23, lr23, pr23⟩
        dsimp only at hk23 lr23 pr23 ⊢
        refine HC.seq ?_
        refine HC.seq ?_
        refine HC.region ?_
        refine HL.val (Val.move rfl) (by decide) ?_
        by_cases hlt23 : k23 < 29
        · refine HL.val ((Val.lss rfl rfl).as (congrArg Value.bool ((lssN k23 29).trans (decide_eq_true hlt23)))) (by decide) ?_
          refine HL.nil ?_
          refine HQ.next ?_
          refine HC.yes rfl ?_
          refine HC.skip ?_
          refine HQ.next ?_
          refine HC.seq ?_
          refine HC.block ?_
          refine HC.region ?_
          refine HL.val (Val.ixAddrQ 2 (i := 2) (m := 4) (s := 1) (e := 63) rfl rfl Try.underlying83 (by kernel_rfl) (by decide) (by decide)) (by decide) ?_
          refine HL.val (Val.load_cell rfl (fun w hw => hw.at (i := 2) rfl) rfl Try.underlying63 rfl) (by decide) ?_
          refine HL.val (Val.ixAddrQ 2 (i := 2) (m := 4) (s := 1) (e := 63) rfl rfl Try.underlying83 (by kernel_rfl) (by decide) (by decide)) (by decide) ?_
          refine HL.val (Val.load_cell rfl (fun w hw => hw.at (i := 2) rfl) rfl Try.underlying63 rfl) (by decide) ?_
          refine HL.call (f := 57) en57 rfl (sqrH (dst1 3 rfl (.inl hb5)) (elh1 3 rfl) lr23) (by decide) ?_
          rintro r24 ⟨lr24, hr24⟩
          simp only [List.set_cons_zero, List.set_cons_succ]
          refine HL.nil ?_
          refine HQ.blockNormal ?_
          refine HQ.next ?_
          refine HC.region ?_
          refine HL.val (Val.move rfl) (by decide) ?_
          refine HL.val ((Val.addI rfl rfl).as (congrArg (Value.int .i64) (wrap1 k23 (by omega)))) (by decide) ?_
          refine HL.val (Val.assign rfl) (by decide) ?_
          refine HL.nil ?_
          exact ⟨fun a w ha hw => ⟨⟨(k23 + 1, r24), by omega, lr24, PowIs.step _ _ hr24 pr23⟩, by dsimp only; omega, ha.subS ⟨rfl, rfl, rfl, rfl, rfl, rfl, rfl, rfl, rfl, rfl, trivial⟩, hw⟩⟩
        · refine HL.val ((Val.lss rfl rfl).as (congrArg Value.bool ((lssN k23 29).trans (decide_eq_false hlt23)))) (by decide) ?_
          refine HL.nil ?_
          refine HQ.next ?_
          refine HC.no rfl ?_
          refine HC.exit ?_
          obtain rfl : k23 = 29 := by omega
          have qr23 : PowIs r5 r23 1152921503533105152 := (show 2147483646 * 2 ^ 29 = 1152921503533105152 by decide) ▸ pr23
          refine HQ.thenExit ?_
          refine HQ.thenExit ?_
          refine HQ.blockExit ?_
          refine HQ.next ?_
          refine HC.seq ?_
          refine HC.region ?_
          refine HL.val (Val.ixAddrQ 2 (i := 2) (m := 4) (s := 1) (e := 63) rfl rfl Try.underlying83 (by kernel_rfl) (by decide) (by decide)) (by decide) ?_
          refine HL.val (Val.load_cell rfl (fun w hw => hw.at (i := 2) rfl) rfl Try.underlying63 rfl) (by decide) ?_
          refine HL.val (Val.ixAddrQ 2 (i := 2) (m := 4) (s := 1) (e := 63) rfl rfl Try.underlying83 (by kernel_rfl) (by decide) (by decide)) (by decide) ?_
          refine HL.val (Val.load_cell rfl (fun w hw => hw.at (i := 2) rfl) rfl Try.underlying63 rfl) (by decide) ?_
          refine HL.val (Val.ixAddrQ 1 (i := 1) (m := 4) (s := 1) (e := 63) rfl rfl Try.underlying83 (by kernel_rfl) (by decide) (by decide)) (by decide) ?_
          refine HL.val (Val.load_cell rfl (fun w hw => hw.at (i := 2) rfl) rfl Try.underlying63 rfl) (by decide) ?_
          refine HL.call (f := 58) en58 rfl (mulH (dst1 3 rfl (.inl hb5)) (elh1 3 rfl) lr23 (elh1 0 rfl) lr21) (by decide) ?_
          rintro r24 ⟨lr24, hr24⟩
          simp only [List.set_cons_zero, List.set_cons_succ]
          have pr24 : PowIs r5 r24 1152921504606846975 := PowIs.mul 1152921503533105152 1073741823 1152921504606846975 hr24 qr23 pr21 (by decide)
          refine HL.nil ?_
          refine HQ.next ?_
          refine HC.seq ?_
          refine HC.region ?_
          refine HL.val (Val.ixAddrQ 1 (i := 1) (m := 4) (s := 1) (e := 63) rfl rfl Try.underlying83 (by kernel_rfl) (by decide) (by decide)) (by decide) ?_
          refine HL.val (Val.load_cell rfl (fun w hw => hw.at (i := 2) rfl) rfl Try.underlying63 rfl) (by decide) ?_
          refine HL.val (Val.ixAddrQ 2 (i := 2) (m := 4) (s := 1) (e := 63) rfl rfl Try.underlying83 (by kernel_rfl) (by decide) (by decide)) (by decide) ?_
          refine HL.val (Val.load_cell rfl (fun w hw => hw.at (i := 2) rfl) rfl Try.underlying63 rfl) (by decide) ?_
          refine HL.call (f := 57) en57 rfl (sqrH (dst1 0 rfl (.inl hb8)) (elh1 3 rfl) lr24) (by decide) ?_
          rintro r25 ⟨lr25, hr25⟩
          simp only [List.set_cons_zero]
          have pr25 : PowIs r5 r25 2305843009213693950 := PowIs.sqr 1152921504606846975 2305843009213693950 hr25 pr24 (by decide)
          refine HL.nil ?_
          refine HQ.next ?_
          refine HC.seq ?_
          refine HC.seq ?_
          refine HC.region ?_
          refine HL.val (Val.assign rfl) (by decide) ?_
          refine HL.nil ?_
          refine HQ.next ?_
          refine HC.block ?_
          refine HC.loop (ι := {p : Nat × Nat // p.1 ≤ 59 ∧ p.2 < 2 ^ 256 ∧ PowIs r5 p.2 (2305843009213693950 * 2 ^ p.1)}) (fun p => 59 - p.1.1) (fun p => [(17, .int .i64 (p.1.1 : Int)), (0, .pointer (some ⟨bz, 0, none⟩)), (1, .pointer (some ⟨bx, 0, none⟩)), (2, .pointer (some ⟨by', 0, none⟩)), (7, .pointer (some ⟨b1, 0, none⟩)), (8, .pointer (some ⟨b2, 0, none⟩)), (9, .pointer (some ⟨b3, 0, none⟩)), (10, .pointer (some ⟨b4, 0, none⟩)), (11, .pointer (some ⟨b5, 0, none⟩)), (12, .pointer (some ⟨b6, 0, none⟩))]) (fun p => [(b8, .cells (byA 32 p.1.2) 59 (0, 0)), (b7, .cells (byA 32 r12) 59 (0, 0)), (b6, .cells #[.pointer (some ⟨b7, 0, none⟩), .pointer (some ⟨b8, 0, none⟩), .pointer (some ⟨b5, 0, none⟩), .pointer (some ⟨b3, 0, none⟩)] 83 (0, 0)), (b5, .cells (byA 32 r24) 59 (0, 0)), (b4, .cells (byA 32 r3) 59 (0, 0)), (b3, .cells (byA 32 r5) 59 (0, 0)), (b2, .cells (byA 32 r4) 59 (0, 0)), (b1, .cells (byA 32 19681161376707505956807079304988542015446066515923890162744021073123829784752) 59 (0, 0)), (bz, .cells (byA 32 z) Tz (0, 0)), (bx, .cells (byA 32 x) Tx (0, 0)), (by', .cells (byA 32 y) Ty (0, 0))]) ⟨(0, r25), Nat.zero_le _, lr25, pr25⟩ (fun a w ha hw => ⟨ha.subS ⟨rfl, rfl, rfl, rfl, rfl, rfl, rfl, rfl, rfl, rfl, trivial⟩, hw⟩) ?_
          rintro ⟨⟨k26, r26⟩, hk26, lr26, pr26⟩
          dsimp only at hk26 lr26 pr26 ⊢
          refine HC.seq ?_
          refine HC.seq ?_
          refine HC.region ?_
          refine HL.val (Val.move rfl) (by decide) ?_
          by_cases hlt26 : k26 < 59
          · refine HL.val ((Val.lss rfl rfl).as (congrArg Value.bool ((lssN k26 59).trans (decide_eq_true hlt26)))) (by decide) ?_
            refine HL.nil ?_
            refine HQ.next ?_
            refine HC.yes rfl ?_
            refine HC.skip ?_
            refine HQ.next ?_
            refine HC.seq ?_
            refine HC.block ?_
            refine HC.region ?_
            refine HL.val (Val.ixAddrQ 1 (i := 1) (m := 4) (s := 1) (e := 63) rfl rfl Try.underlying83 (by kernel_rfl) (by decide) (by decide)) (by decide) ?_
            refine HL.val (Val.load_cell rfl (fun w hw => hw.at (i := 2) rfl) rfl Try.underlying63 rfl) (by decide) ?_
            refine HL.val (Val.ixAddrQ 1 (i := 1) (m := 4) (s := 1) (e := 63) rfl rfl Try.underlying83 (by kernel_rfl) (by decide) (by decide)) (by decide) ?_
            refine HL.val (Val.load_cell rfl (fun w hw => hw.at (i := 2) rfl) rfl Try.underlying63 rfl) (by decide) ?_
            refine HL.call (f := 57) en57 rfl (sqrH (dst1 0 rfl (.inl hb8)) (elh1 0 rfl) lr26) (by decide) ?_
            rintro r27 ⟨lr27, hr27⟩
            simp only [List.set_cons_zero]
            refine HL.nil ?_
            refine HQ.blockNormal ?_
            refine HQ.next ?_
            refine HC.region ?_
            refine HL.val (Val.move rfl) (by decide) ?_
            refine HL.val ((Val.addI rfl rfl).as (congrArg (Value.int .i64) (wrap1 k26 (by omega)))) (by decide) ?_
            refine HL.val (Val.assign rfl) (by decide) ?_
            refine HL.nil ?_
            exact ⟨fun a w ha hw => ⟨⟨(k26 + 1, r27), by omega, lr27, PowIs.step _ _ hr27 pr26⟩, by dsimp only; omega, ha.subS ⟨rfl, rfl, rfl, rfl, rfl, rfl, rfl, rfl, rfl, rfl, trivial⟩, hw⟩⟩
          · refine HL.val ((Val.lss rfl rfl).as (congrArg Value.bool ((lssN k26 59).trans (decide_eq_false hlt26)))) (by decide) ?_
            refine HL.nil ?_
            refine HQ.next ?_
            refine HC.no rfl ?_
            refine HC.exit ?_
            obtain rfl : k26 = 59 := by omega
            have qr26 : PowIs r5 r26 1329227995784915871750885555673497600 := (show 2305843009213693950 * 2 ^ 59 = 1329227995784915871750885555673497600 by decide) ▸ pr26
            refine HQ.thenExit ?_
            refine HQ.thenExit ?_
            refine HQ.blockExit ?_
            refine HQ.next ?_
            refine HC.seq ?_
            refine HC.region ?_
            refine HL.val (Val.ixAddrQ 1 (i := 1) (m := 4) (s := 1) (e := 63) rfl rfl Try.underlying83 (by kernel_rfl) (by decide) (by decide)) (by decide) ?_
            refine HL.val (Val.load_cell rfl (fun w hw => hw.at (i := 2) rfl) rfl Try.underlying63 rfl) (by decide) ?_
            refine HL.val (Val.ixAddrQ 1 (i := 1) (m := 4) (s := 1) (e := 63) rfl rfl Try.underlying83 (by kernel_rfl) (by decide) (by decide)) (by decide) ?_
            refine HL.val (Val.load_cell rfl (fun w hw => hw.at (i := 2) rfl) rfl Try.underlying63 rfl) (by decide) ?_
            refine HL.val (Val.ixAddrQ 2 (i := 2) (m := 4) (s := 1) (e := 63) rfl rfl Try.underlying83 (by kernel_rfl) (by decide) (by decide)) (by decide) ?_
            refine HL.val (Val.load_cell rfl (fun w hw => hw.at (i := 2) rfl) rfl Try.underlying63 rfl) (by decide) ?_
            refine HL.call (f := 58) en58 rfl (mulH (dst1 0 rfl (.inl hb8)) (elh1 0 rfl) lr26 (elh1 3 rfl) lr24) (by decide) ?_
            rintro r27 ⟨lr27, hr27⟩
            simp only [List.set_cons_zero]
            have pr27 : PowIs r5 r27 1329227995784915872903807060280344575 := PowIs.mul 1329227995784915871750885555673497600 1152921504606846975 1329227995784915872903807060280344575 hr27 qr26 pr24 (by decide)
            refine HL.nil ?_
            refine HQ.next ?_
            refine HC.seq ?_
            refine HC.seq ?_
            refine HC.region ?_
            refine HL.val (Val.assign rfl) (by decide) ?_
            refine HL.nil ?_
            refine HQ.next ?_
            refine HC.block ?_
            refine HC.loop (ι := {p : Nat × Nat // p.1 ≤ 5 ∧ p.2 < 2 ^ 256 ∧ PowIs r5 p.2 (1329227995784915872903807060280344575 * 2 ^ p.1)}) (fun p => 5 - p.1.1) (fun p => [(18, .int .i64 (p.1.1 : Int)), (0, .pointer (some ⟨bz, 0, none⟩)), (1, .pointer (some ⟨bx, 0, none⟩)), (2, .pointer (some ⟨by', 0, none⟩)), (7, .pointer (some ⟨b1, 0, none⟩)), (8, .pointer (some ⟨b2, 0, none⟩)), (9, .pointer (some ⟨b3, 0, none⟩)), (10, .pointer (some ⟨b4, 0, none⟩)), (11, .pointer (some ⟨b5, 0, none⟩)), (12, .pointer (some ⟨b6, 0, none⟩))]) (fun p => [(b8, .cells (byA 32 p.1.2) 59 (0, 0)), (b7, .cells (byA 32 r12) 59 (0, 0)), (b6, .cells #[.pointer (some ⟨b7, 0, none⟩), .pointer (some ⟨b8, 0, none⟩), .pointer (some ⟨b5, 0, none⟩), .pointer (some ⟨b3, 0, none⟩)] 83 (0, 0)), (b5, .cells (byA 32 r24) 59 (0, 0)), (b4, .cells (byA 32 r3) 59 (0, 0)), (b3, .cells (byA 32 r5) 59 (0, 0)), (b2, .cells (byA 32 r4) 59 (0, 0)), (b1, .cells (byA 32 19681161376707505956807079304988542015446066515923890162744021073123829784752) 59 (0, 0)), (bz, .cells (byA 32 z) Tz (0, 0)), (bx, .cells (byA 32 x) Tx (0, 0)), (by', .cells (byA 32 y) Ty (0, 0))]) ⟨(0, r27), Nat.zero_le _, lr27, pr27⟩ (fun a w ha hw => ⟨ha.subS ⟨rfl, rfl, rfl, rfl, rfl, rfl, rfl, rfl, rfl, rfl, trivial⟩, hw⟩) ?_
            rintro ⟨⟨k28, r28⟩, hk28, lr28, pr28⟩
            dsimp only at hk28 lr28 pr28 ⊢
            refine HC.seq ?_
            refine HC.seq ?_
            refine HC.region ?_
            refine HL.val (Val.move rfl) (by decide) ?_
            by_cases hlt28 : k28 < 5
            · refine HL.val ((Val.lss rfl rfl).as (congrArg Value.bool ((lssN k28 5).trans (decide_eq_true hlt28)))) (by decide) ?_
              refine HL.nil ?_
              refine HQ.next ?_
              refine HC.yes rfl ?_
              refine HC.skip ?_
              refine HQ.next ?_
              refine HC.seq ?_
              refine HC.block ?_
              refine HC.region ?_
              refine HL.val (Val.ixAddrQ 1 (i := 1) (m := 4) (s := 1) (e := 63) rfl rfl Try.underlying83 (by kernel_rfl) (by decide) (by decide)) (by decide) ?_
              refine HL.val (Val.load_cell rfl (fun w hw => hw.at (i := 2) rfl) rfl Try.underlying63 rfl) (by decide) ?_
              refine HL.val (Val.ixAddrQ 1 (i := 1) (m := 4) (s := 1) (e := 63) rfl rfl Try.underlying83 (by kernel_rfl) (by decide) (by decide)) (by decide) ?_
              refine HL.val (Val.load_cell rfl (fun w hw => hw.at (i := 2) rfl) rfl Try.underlying63 rfl) (by decide) ?_
              refine HL.call (f := 57) en57 rfl (sqrH (dst1 0 rfl (.inl hb8)) (elh1 0 rfl) lr28) (by decide) ?_
              rintro r29 ⟨lr29, hr29⟩
              simp only [List.set_cons_zero]
              refine HL.nil ?_
              refine HQ.blockNormal ?_
              refine HQ.next ?_
              refine HC.region ?_
              refine HL.val (Val.move rfl) (by decide) ?_
              refine HL.val ((Val.addI rfl rfl).as (congrArg (Value.int .i64) (wrap1 k28 (by omega)))) (by decide) ?_
              refine HL.val (Val.assign rfl) (by decide) ?_
              refine HL.nil ?_
              exact ⟨fun a w ha hw => ⟨⟨(k28 + 1, r29), by omega, lr29, PowIs.step _ _ hr29 pr28⟩, by dsimp only; omega, ha.subS ⟨rfl, rfl, rfl, rfl, rfl, rfl, rfl, rfl, rfl, rfl, trivial⟩, hw⟩⟩
            · refine HL.val ((Val.lss rfl rfl).as (congrArg Value.bool ((lssN k28 5).trans (decide_eq_false hlt28)))) (by decide) ?_
              refine HL.nil ?_
              refine HQ.next ?_
              refine HC.no rfl ?_
              refine HC.exit ?_
              obtain rfl : k28 = 5 := by omega
              have qr28 : PowIs r5 r28 42535295865117307932921825928971026400 := pr28
              refine HQ.thenExit ?_
              refine HQ.thenExit ?_
              refine HQ.blockExit ?_
              refine HQ.next ?_
              refine HC.seq ?_
              refine HC.region ?_
              refine HL.val (Val.ixAddrQ 1 (i := 1) (m := 4) (s := 1) (e := 63) rfl rfl Try.underlying83 (by kernel_rfl) (by decide) (by decide)) (by decide) ?_
              refine HL.val (Val.load_cell rfl (fun w hw => hw.at (i := 2) rfl) rfl Try.underlying63 rfl) (by decide) ?_
              refine HL.val (Val.ixAddrQ 1 (i := 1) (m := 4) (s := 1) (e := 63) rfl rfl Try.underlying83 (by kernel_rfl) (by decide) (by decide)) (by decide) ?_
              refine HL.val (Val.load_cell rfl (fun w hw => hw.at (i := 2) rfl) rfl Try.underlying63 rfl) (by decide) ?_
              refine HL.val (Val.ixAddrQ 0 (i := 0) (m := 4) (s := 1) (e := 63) rfl rfl Try.underlying83 (by kernel_rfl) (by decide) (by decide)) (by decide) ?_
              refine HL.val (Val.load_cell rfl (fun w hw => hw.at (i := 2) rfl) rfl Try.underlying63 rfl) (by decide) ?_
              refine HL.call (f := 58) en58 rfl (mulH (dst1 0 rfl (.inl hb8)) (elh1 0 rfl) lr28 (elh1 1 rfl) lr12) (by decide) ?_
              rintro r29 ⟨lr29, hr29⟩
              simp only [List.set_cons_zero]
              have pr29 : PowIs r5 r29 42535295865117307932921825928971026431 := PowIs.mul 42535295865117307932921825928971026400 31 42535295865117307932921825928971026431 hr29 qr28 pr12 (by decide)
              refine HL.nil ?_
              refine HQ.next ?_
              refine HC.seq ?_
              refine HC.region ?_
              refine HL.val (Val.ixAddrQ 2 (i := 2) (m := 4) (s := 1) (e := 63) rfl rfl Try.underlying83 (by kernel_rfl) (by decide) (by decide)) (by decide) ?_
              refine HL.val (Val.load_cell rfl (fun w hw => hw.at (i := 2) rfl) rfl Try.underlying63 rfl) (by decide) ?_
              refine HL.val (Val.ixAddrQ 1 (i := 1) (m := 4) (s := 1) (e := 63) rfl rfl Try.underlying83 (by kernel_rfl) (by decide) (by decide)) (by decide) ?_
              refine HL.val (Val.load_cell rfl (fun w hw => hw.at (i := 2) rfl) rfl Try.underlying63 rfl) (by decide) ?_
              refine HL.call (f := 57) en57 rfl (sqrH (dst1 3 rfl (.inl hb5)) (elh1 0 rfl) lr29) (by decide) ?_
              rintro r30 ⟨lr30, hr30⟩
              simp only [List.set_cons_zero, List.set_cons_succ]
              have pr30 : PowIs r5 r30 85070591730234615865843651857942052862 := PowIs.sqr 42535295865117307932921825928971026431 85070591730234615865843651857942052862 hr30 pr29 (by decide)
              refine HL.nil ?_
              refine HQ.next ?_
              refine HC.seq ?_
              refine HC.seq ?_
              refine HC.region ?_
              refine HL.val (Val.assign rfl) (by decide) ?_
              refine HL.nil ?_
              refine HQ.next ?_
              refine HC.block ?_
              refine HC.loop (ι := {p : Nat × Nat // p.1 ≤ 124 ∧ p.2 < 2 ^ 256 ∧ PowIs r5 p.2 (85070591730234615865843651857942052862 * 2 ^ p.1)}) (fun p => 124 - p.1.1) (fun p => [(19, .int .i64 (p.1.1 : Int)), (0, .pointer (some ⟨bz, 0, none⟩)), (1, .pointer (some ⟨bx, 0, none⟩)), (2, .pointer (some ⟨by', 0, none⟩)), (7, .pointer (some ⟨b1, 0, none⟩)), (8, .pointer (some ⟨b2, 0, none⟩)), (9, .pointer (some ⟨b3, 0, none⟩)), (10, .pointer (some ⟨b4, 0, none⟩)), (11, .pointer (some ⟨b5, 0, none⟩)), (12, .pointer (some ⟨b6, 0, none⟩))]) (fun p => [(b8, .cells (byA 32 r29) 59 (0, 0)), (b7, .cells (byA 32 r12) 59 (0, 0)), (b6, .cells #[.pointer (some ⟨b7, 0, none⟩), .pointer (some ⟨b8, 0, none⟩), .pointer (some ⟨b5, 0, none⟩), .pointer (some ⟨b3, 0, none⟩)] 83 (0, 0)), (b5, .cells (byA 32 p.1.2) 59 (0, 0)), (b4, .cells (byA 32 r3) 59 (0, 0)), (b3, .cells (byA 32 r5) 59 (0, 0)), (b2, .cells (byA 32 r4) 59 (0, 0)), (b1, .cells (byA 32 19681161376707505956807079304988542015446066515923890162744021073123829784752) 59 (0, 0)), (bz, .cells (byA 32 z) Tz (0, 0)), (bx, .cells (byA 32 x) Tx (0, 0)), (by', .cells (byA 32 y) Ty (0, 0))]) ⟨(0, r30), Nat.zero_le _, lr30, pr30⟩ (fun a w ha hw => ⟨ha.subS ⟨rfl, rfl, rfl, rfl, rfl, rfl, rfl, rfl, rfl, rfl, trivial⟩, hw⟩) ?_
              rintro ⟨⟨k31, r31⟩, hk31, lr31, pr31⟩
              dsimp only at hk31 lr31 pr31 ⊢
              refine HC.seq ?_
              refine HC.seq ?_
              refine HC.region ?_
              refine HL.val (Val.move rfl) (by decide) ?_
              by_cases hlt31 : k31 < 124
              · refine HL.val ((Val.lss rfl rfl).as (congrArg Value.bool ((lssN k31 124).trans (decide_eq_true hlt31)))) (by decide) ?_
                refine HL.nil ?_
                refine HQ.next ?_
                refine HC.yes rfl ?_
                refine HC.skip ?_
                refine HQ.next ?_
                refine HC.seq ?_
                refine HC.block ?_
                refine HC.region ?_
                refine HL.val (Val.ixAddrQ 2 (i := 2) (m := 4) (s := 1) (e := 63) rfl rfl Try.underlying83 (by kernel_rfl) (by decide) (by decide)) (by decide) ?_
                refine HL.val (Val.load_cell rfl (fun w hw => hw.at (i := 2) rfl) rfl Try.underlying63 rfl) (by decide) ?_
                refine HL.val (Val.ixAddrQ 2 (i := 2) (m := 4) (s := 1) (e := 63) rfl rfl Try.underlying83 (by kernel_rfl) (by decide) (by decide)) (by decide) ?_
                refine HL.val (Val.load_cell rfl (fun w hw => hw.at (i := 2) rfl) rfl Try.underlying63 rfl) (by decide) ?_
                refine HL.call (f := 57) en57 rfl (sqrH (dst1 3 rfl (.inl hb5)) (elh1 3 rfl) lr31) (by decide) ?_
                rintro r32 ⟨lr32, hr32⟩
                simp only [List.set_cons_zero, List.set_cons_succ]
                refine HL.nil ?_
                refine HQ.blockNormal ?_
                refine HQ.next ?_
                refine HC.region ?_
                refine HL.val (Val.move rfl) (by decide) ?_
                refine HL.val ((Val.addI rfl rfl).as (congrArg (Value.int .i64) (wrap1 k31 (by omega)))) (by decide) ?_
                refine HL.val (Val.assign rfl) (by decide) ?_
                refine HL.nil ?_
                exact ⟨fun a w ha hw => ⟨⟨(k31 + 1, r32), by omega, lr32, PowIs.step _ _ hr32 pr31⟩, by dsimp only; omega, ha.subS ⟨rfl, rfl, rfl, rfl, rfl, rfl, rfl, rfl, rfl, rfl, trivial⟩, hw⟩⟩
              · refine HL.val ((Val.lss rfl rfl).as (congrArg Value.bool ((lssN k31 124).trans (decide_eq_false hlt31)))) (by decide) ?_
                refine HL.nil ?_
                refine HQ.next ?_
                refine HC.no rfl ?_
                refine HC.exit ?_
                obtain rfl : k31 = 124 := by omega
                have qr31 : PowIs r5 r31 1809251394333065553493296640760748560164808214535516505183602924194671624192 := (show 85070591730234615865843651857942052862 * 2 ^ 124 = 1809251394333065553493296640760748560164808214535516505183602924194671624192 by decide) ▸ pr31
                refine HQ.thenExit ?_
                refine HQ.thenExit ?_
                refine HQ.blockExit ?_
                refine HQ.next ?_
                refine HC.seq ?_
                refine HC.region ?_
                refine HL.val (Val.ixAddrQ 2 (i := 2) (m := 4) (s := 1) (e := 63) rfl rfl Try.underlying83 (by kernel_rfl) (by decide) (by decide)) (by decide) ?_
                refine HL.val (Val.load_cell rfl (fun w hw => hw.at (i := 2) rfl) rfl Try.underlying63 rfl) (by decide) ?_
                refine HL.val (Val.ixAddrQ 2 (i := 2) (m := 4) (s := 1) (e := 63) rfl rfl Try.underlying83 (by kernel_rfl) (by decide) (by decide)) (by decide) ?_
                refine HL.val (Val.load_cell rfl (fun w hw => hw.at (i := 2) rfl) rfl Try.underlying63 rfl) (by decide) ?_
                refine HL.val (Val.ixAddrQ 1 (i := 1) (m := 4) (s := 1) (e := 63) rfl rfl Try.underlying83 (by kernel_rfl) (by decide) (by decide)) (by decide) ?_
                refine HL.val (Val.load_cell rfl (fun w hw => hw.at (i := 2) rfl) rfl Try.underlying63 rfl) (by decide) ?_
                refine HL.call (f := 58) en58 rfl (mulH (dst1 3 rfl (.inl hb5)) (elh1 3 rfl) lr31 (elh1 0 rfl) lr29) (by decide) ?_
                rintro r32 ⟨lr32, hr32⟩
                simp only [List.set_cons_zero, List.set_cons_succ]
                have pr32 : PowIs r5 r32 1809251394333065553493296640760748560207343510400633813116524750123642650623 := PowIs.mul 1809251394333065553493296640760748560164808214535516505183602924194671624192 42535295865117307932921825928971026431 1809251394333065553493296640760748560207343510400633813116524750123642650623 hr32 qr31 pr29 (by decide)
                refine HL.nil ?_
                refine HQ.next ?_
                refine HC.seq ?_
                refine HC.region ?_
                refine HL.val (Val.ixAddrQ 2 (i := 2) (m := 4) (s := 1) (e := 63) rfl rfl Try.underlying83 (by kernel_rfl) (by decide) (by decide)) (by decide) ?_
                refine HL.val (Val.load_cell rfl (fun w hw => hw.at (i := 2) rfl) rfl Try.underlying63 rfl) (by decide) ?_
                refine HL.val (Val.ixAddrQ 2 (i := 2) (m := 4) (s := 1) (e := 63) rfl rfl Try.underlying83 (by kernel_rfl) (by decide) (by decide)) (by decide) ?_
                refine HL.val (Val.load_cell rfl (fun w hw => hw.at (i := 2) rfl) rfl Try.underlying63 rfl) (by decide) ?_
                refine HL.call (f := 57) en57 rfl (sqrH (dst1 3 rfl (.inl hb5)) (elh1 3 rfl) lr32) (by decide) ?_
                rintro r33 ⟨lr33, hr33⟩
                simp only [List.set_cons_zero, List.set_cons_succ]
                have pr33 : PowIs r5 r33 3618502788666131106986593281521497120414687020801267626233049500247285301246 := PowIs.sqr 1809251394333065553493296640760748560207343510400633813116524750123642650623 3618502788666131106986593281521497120414687020801267626233049500247285301246 hr33 pr32 (by decide)
                refine HL.nil ?_
                refine HQ.next ?_
                refine HC.seq ?_
                refine HC.region ?_
                refine HL.val (Val.ixAddrQ 2 (i := 2) (m := 4) (s := 1) (e := 63) rfl rfl Try.underlying83 (by kernel_rfl) (by decide) (by decide)) (by decide) ?_
                refine HL.val (Val.load_cell rfl (fun w hw => hw.at (i := 2) rfl) rfl Try.underlying63 rfl) (by decide) ?_
                refine HL.val (Val.ixAddrQ 2 (i := 2) (m := 4) (s := 1) (e := 63) rfl rfl Try.underlying83 (by kernel_rfl) (by decide) (by decide)) (by decide) ?_
                refine HL.val (Val.load_cell rfl (fun w hw => hw.at (i := 2) rfl) rfl Try.underlying63 rfl) (by decide) ?_
                refine HL.call (f := 57) en57 rfl (sqrH (dst1 3 rfl (.inl hb5)) (elh1 3 rfl) lr33) (by decide) ?_
                rintro r34 ⟨lr34, hr34⟩
                simp only [List.set_cons_zero, List.set_cons_succ]
                have pr34 : PowIs r5 r34 7237005577332262213973186563042994240829374041602535252466099000494570602492 := PowIs.sqr 3618502788666131106986593281521497120414687020801267626233049500247285301246 7237005577332262213973186563042994240829374041602535252466099000494570602492 hr34 pr33 (by decide)
                refine HL.nil ?_
                refine HQ.next ?_
                refine HC.seq ?_
                refine HC.region ?_
                refine HL.val (Val.ixAddrQ 2 (i := 2) (m := 4) (s := 1) (e := 63) rfl rfl Try.underlying83 (by kernel_rfl) (by decide) (by decide)) (by decide) ?_
                refine HL.val (Val.load_cell rfl (fun w hw => hw.at (i := 2) rfl) rfl Try.underlying63 rfl) (by decide) ?_
                refine HL.val (Val.ixAddrQ 2 (i := 2) (m := 4) (s := 1) (e := 63) rfl rfl Try.underlying83 (by kernel_rfl) (by decide) (by decide)) (by decide) ?_
                refine HL.val (Val.load_cell rfl (fun w hw => hw.at (i := 2) rfl) rfl Try.underlying63 rfl) (by decide) ?_
                refine HL.val (Val.ixAddrQ 3 (i := 3) (m := 4) (s := 1) (e := 63) rfl rfl Try.underlying83 (by kernel_rfl) (by decide) (by decide)) (by decide) ?_
                refine HL.val (Val.load_cell rfl (fun w hw => hw.at (i := 2) rfl) rfl Try.underlying63 rfl) (by decide) ?_
                refine HL.call (f := 58) en58 rfl (mulH (dst1 3 rfl (.inl hb5)) (elh1 3 rfl) lr34 (elh1 5 rfl) lr5) (by decide) ?_
                rintro r35 ⟨lr35, hr35⟩
                simp only [List.set_cons_zero, List.set_cons_succ]
                have pr35 : PowIs r5 r35 7237005577332262213973186563042994240829374041602535252466099000494570602493 := PowIs.mul 7237005577332262213973186563042994240829374041602535252466099000494570602492 1 7237005577332262213973186563042994240829374041602535252466099000494570602493 hr35 pr34 (PowIs.one r5) (by decide)
                refine HL.nil ?_
                refine HQ.next ?_
                refine HC.seq ?_
                refine HC.region ?_
                refine HL.val (Val.move rfl) (by decide) ?_
                refine HL.val (Val.move rfl) (by decide) ?_
                refine HL.val (Val.move rfl) (by decide) ?_
                refine HL.call (f := 58) en58 rfl (mulH (dst1 8 rfl (ownB bz)) (elh1 3 rfl) lr35 (elh1 4 rfl) lr3) (by decide) ?_
                rintro r36 ⟨lr36, hr36⟩
                simp only [List.set_cons_zero, List.set_cons_succ]
                refine HL.nil ?_
                refine HQ.next ?_
                refine HC.seq ?_
                refine HC.region ?_
                refine HL.val (Val.move rfl) (by decide) ?_
                refine HL.val (Val.move rfl) (by decide) ?_
                refine HL.call (f := 57) en57 rfl (sqrH (dst1 6 rfl (.inl hb2)) (elh1 8 rfl) lr36) (by decide) ?_
                rintro r37 ⟨lr37, hr37⟩
                simp only [List.set_cons_zero, List.set_cons_succ]
                refine HL.nil ?_
                refine HQ.next ?_
                refine HC.seq ?_
                refine HC.region ?_
                refine HL.val (Val.move rfl) (by decide) ?_
                refine HL.val (Val.move rfl) (by decide) ?_
                refine HL.val (Val.move rfl) (by decide) ?_
                refine HL.call (f := 58) en58 rfl (mulH (dst1 6 rfl (.inl hb2)) (elh1 6 rfl) lr37 (elh1 10 rfl) ly) (by decide) ?_
                rintro r38 ⟨lr38, hr38⟩
                simp only [List.set_cons_zero, List.set_cons_succ]
                refine HL.nil ?_
                refine HQ.next ?_
                refine HC.seq ?_
                refine HC.region ?_
                refine HL.val (Val.move rfl) (by decide) ?_
                refine HL.val (Val.move rfl) (by decide) ?_
                refine HL.val (Val.move rfl) (by decide) ?_
                refine HL.call (f := 52) en52 rfl (subH (dst1 5 rfl (.inl hb3)) (elh1 6 rfl) lr38 (elh1 9 rfl) lx) (by decide) ?_
                rintro r39 ⟨lr39, hr39⟩
                simp only [List.set_cons_zero, List.set_cons_succ]
                refine HL.nil ?_
                refine HQ.next ?_
                refine HC.seq ?_
                refine HC.region ?_
                refine HL.val (Val.move rfl) (by decide) ?_
                refine HL.val (Val.move rfl) (by decide) ?_
                refine HL.val (Val.move rfl) (by decide) ?_
                refine HL.call (f := 51) en51 rfl (addH (dst1 4 rfl (.inl hb4)) (elh1 6 rfl) lr38 (elh1 9 rfl) lx) (by decide) ?_
                rintro r40 ⟨lr40, hr40⟩
                simp only [List.set_cons_zero, List.set_cons_succ]
                refine HL.nil ?_
                refine HQ.next ?_
                refine HC.seq ?_
                refine HC.region ?_
                refine HL.val (Val.move rfl) (by decide) ?_
                by_cases hz41 : r39 % p25 = 0
                · refine HL.callD en81 rfl (fun w hw => lift_one hw (i := 5) rfl (.inl hb3) (isZero_true hz41 (hw.at (i := 5) rfl) lr39)) (by decide) ?_
                  simp only [List.set_cons_zero, List.set_cons_succ]
                  refine HL.nil ?_
                  refine HQ.next ?_
                  refine HC.yes rfl ?_
                  refine HC.seq ?_
                  refine HC.region ?_
                  refine HL.val (Val.assign rfl) (by decide) ?_
                  refine HL.nil ?_
                  refine HQ.next ?_
                  refine HC.ret ?_
                  obtain ⟨t1, t2, t3⟩ := isq_leaf hx hy hr1 hr2 hr3 hr4 hr5 pr35 hr36 hr37 hr38 hr39 hr40
                  exact HQ.ret1 rfl rfl (fun w hw => ⟨r36, ⟨lr36, fun _ => (t1 hz41).2, by rw [(t1 hz41).1]⟩, hw.pick [8] (by simp)⟩)
                · refine HL.callD en81 rfl (fun w hw => lift_one hw (i := 5) rfl (.inl hb3) (isZero_false hz41 (hw.at (i := 5) rfl) lr39)) (by decide) ?_
                  simp only [List.set_cons_zero, List.set_cons_succ]
                  refine HL.nil ?_
                  refine HQ.next ?_
                  refine HC.no rfl ?_
                  refine HC.seq ?_
                  refine HC.region ?_
                  refine HL.val (Val.move rfl) (by decide) ?_
                  by_cases hz42 : r40 % p25 = 0
                  · refine HL.callD en81 rfl (fun w hw => lift_one hw (i := 4) rfl (.inl hb4) (isZero_true hz42 (hw.at (i := 4) rfl) lr40)) (by decide) ?_
                    simp only [List.set_cons_zero, List.set_cons_succ]
                    refine HL.nil ?_
                    refine HQ.next ?_
                    refine HC.yes rfl ?_
                    refine HC.seq ?_
                    refine HC.region ?_
                    refine HL.val (Val.move rfl) (by decide) ?_
                    refine HL.val (Val.move rfl) (by decide) ?_
                    refine HL.val (Val.move rfl) (by decide) ?_
                    refine HL.call (f := 58) en58 rfl (mulH (dst1 8 rfl (ownB bz)) (elh1 8 rfl) lr36 (elh1 7 rfl) (by decide)) (by decide) ?_
                    rintro r43 ⟨lr43, hr43⟩
                    simp only [List.set_cons_zero, List.set_cons_succ]
                    refine HL.nil ?_
                    refine HQ.next ?_
                    refine HC.seq ?_
                    refine HC.region ?_
                    refine HL.val (Val.assign rfl) (by decide) ?_
                    refine HL.nil ?_
                    refine HQ.next ?_
                    refine HC.ret ?_
                    obtain ⟨t1, t2, t3⟩ := isq_leaf hx hy hr1 hr2 hr3 hr4 hr5 pr35 hr36 hr37 hr38 hr39 hr40
                    exact HQ.ret1 rfl rfl (fun w hw => ⟨r43, ⟨lr43, fun _ => (t2 hz42).2 r43 hr43, by rw [(t2 hz42).1]⟩, hw.pick [8] (by simp)⟩)
                  · refine HL.callD en81 rfl (fun w hw => lift_one hw (i := 4) rfl (.inl hb4) (isZero_false hz42 (hw.at (i := 4) rfl) lr40)) (by decide) ?_
                    simp only [List.set_cons_zero, List.set_cons_succ]
                    refine HL.nil ?_
                    refine HQ.next ?_
                    refine HC.no rfl ?_
                    refine HC.seq ?_
                    refine HC.region ?_
                    refine HL.val (Val.assign rfl) (by decide) ?_
                    refine HL.nil ?_
                    refine HQ.next ?_
                    refine HC.ret ?_
                    obtain ⟨t1, t2, t3⟩ := isq_leaf hx hy hr1 hr2 hr3 hr4 hr5 pr35 hr36 hr37 hr38 hr39 hr40
                    exact HQ.ret1 rfl rfl (fun w hw => ⟨r36, ⟨lr36, fun h => absurd (h.symm.trans (t3 hz41 hz42)) (by decide), by rw [t3 hz41 hz42]⟩, hw.pick [8] (by simp)⟩)

theorem fpInvSqrtH (i j l : Nat) {D : Nat → Bool} {u0 : World} {η : List (Nat × Obj)} {bz bx by' Tz Tx Ty z x y : Nat} (hi : η[i]? = some (bz, .cells (byA 32 z) Tz (0, 0))) (hj : η[j]? = some (bx, .cells (byA 32 x) Tx (0, 0))) (hl : η[l]? = some (by', .cells (byA 32 y) Ty (0, 0))) (hD : u0.heap.size ≤ bz ∨ D bz = true) (ij : i ≠ j) (il : i ≠ l) (jl : j ≠ l) (lx : x < 2 ^ 256) (ly : y < 2 ^ 256) (hx : ¬ x % p25 = 0) (hy : ¬ y % p25 = 0) :
    ∀ w, Hold D u0 η w → Calls Try.prog 62 #[.pointer (some ⟨bz, 0, none⟩), .pointer (some ⟨bx, 0, none⟩), .pointer (some ⟨by', 0, none⟩)] w fun e w' => ∃ r, (r < 2 ^ 256 ∧ (sqB x y = true → r * r * y % p25 = x % p25)) ∧ e = .returned (.bool (sqB x y)) ∧ Hold D u0 (η.set i (bz, .cells (byA 32 r) Tz (0, 0))) w' := fun _ hw =>
  (fpInvSqrt_any (hw.at hi) (hw.at hj) (hw.at hl) (nd_ne2 hw hi hj ij) (nd_ne2 hw hi hl il) (nd_ne2 hw hj hl jl) lx ly hx hy).mono fun _ _ ⟨r, ⟨hr, hs, he⟩, hh⟩ => ⟨r, ⟨hr, hs⟩, he, hw.lift1 hi hD hh (hh.at (i := 0) rfl)⟩

set_option maxRecDepth 100000 in
theorem implInvSqrt (x y : Nat) (hx : x < 2 ^ 256) (hy : y < 2 ^ 256) (zx : ¬ x % p25 = 0) (zy : ¬ y % p25 = 0) (w : World) :
    Calls Try.prog 43 #[byV 32 x, byV 32 y] w fun e w' => ∃ r, (r < 2 ^ 256 ∧ (sqB x y = true → r * r * y % p25 = x % p25)) ∧ e = .returned (.tuple #[byV 32 (r % p25), .bool (sqB x y)]) ∧ Below w.heap.size w w' := by
  refine calls_H (args := [byV 32 x, byV 32 y]) noD [] Try.func43 rfl (m := 16) rfl rfl (hold_nil _ _) ?_
  refine HC.seq ?_
  refine HC.region ?_
  refine HL.new (New.box rfl) (by decide) ?_
  intro b1 hb1
  refine HL.new (New.box rfl) (by decide) ?_
  intro b2 hb2
  refine HL.new (New.alloc al22) (by decide) ?_
  intro b3 hb3
  refine HL.val (Val.assign rfl) (by decide) ?_
  refine HL.nil ?_
  refine HQ.next ?_
  refine HC.seq ?_
  refine HC.region ?_
  refine HL.new (New.alloc al59) (by decide) ?_
  intro b4 hb4
  refine HL.nil ?_
  refine HQ.next ?_
  refine HC.seq ?_
  refine HC.draw2s 2 (by kernel_rfl) (by kernel_rfl) rfl rfl rfl (by decide) al59 al59 ?_
  simp only [List.take]
  refine HV.val (Val.load_row rfl (fun w hw => hw.at (i := 3) rfl) Try.underlying22 rfl (sz22 _)) (by decide) ?_
  refine HV.val (Val.load_row rfl (fun w hw => hw.at (i := 2) rfl) Try.underlying22 rfl (sz22 _)) (by decide) ?_
  refine HV.tail2s (by decide) (by decide) (fun _ _ => Put.row rfl rfl (sz59 _) (eqsz32 _ _) (one32 _)) (fun _ _ => Put.row rfl rfl (sz59 _) (eqsz32 _ _) (one32 _)) ?_
  intro b5 b6 hb5 hb6
  refine HQ.next ?_
  refine HC.seq ?_
  refine HC.region ?_
  refine HL.call (f := 62) en62 rfl (fpInvSqrtH 2 1 0 rfl rfl rfl (.inl hb4) (by decide) (by decide) (by decide) hx hy zx zy) (by decide) ?_
  rintro r1 ⟨lr1, hr1⟩
  simp only [List.set_cons_zero, List.set_cons_succ]
  refine HL.val (Val.assign rfl) (by decide) ?_
  refine HL.nil ?_
  refine HQ.next ?_
  refine HC.seq ?_
  refine HC.region ?_
  refine HL.val (Val.load_row rfl (fun w hw => hw.at (i := 2) rfl) Try.underlying59 rfl (sz59 _)) (by decide) ?_
  refine HL.val (Val.call en46 (reduced46 r1 lr1) rfl) (by decide) ?_
  refine HL.val (Val.move rfl) (by decide) ?_
  refine HL.put 3 rfl (Put.row rfl rfl (sz22 _) (eqsz32 _ _) (one32 _)) (.inl hb3) ?_
  simp only [List.set_cons_zero, List.set_cons_succ]
  refine HL.val (Val.assign rfl) (by decide) ?_
  refine HL.nil ?_
  refine HQ.next ?_
  refine HC.ret ?_
  exact HQ.retct 3 rfl rfl rfl rfl Try.underlying22 rfl (sz22 _) (fun _ hw => ⟨r1, ⟨lr1, hr1⟩, rfl, hw.sn.pure⟩)
theorem implInvSqrtH {D : Nat → Bool} {u0 : World} {η : List (Nat × Obj)} {x y : Nat} (hx : x < 2 ^ 256) (hy : y < 2 ^ 256) (zx : ¬ x % p25 = 0) (zy : ¬ y % p25 = 0) :
    ∀ w, Hold D u0 η w → Calls Try.prog 43 #[byV 32 x, byV 32 y] w fun e w' => ∃ r, (r < 2 ^ 256 ∧ (sqB x y = true → r * r * y % p25 = x % p25)) ∧ e = .returned (.tuple #[byV 32 (r % p25), .bool (sqB x y)]) ∧ Hold D u0 η w' := fun w hw =>
  (implInvSqrt x y hx hy zx zy w).mono fun _ _ ⟨r, hr, he, hb⟩ => ⟨r, hr, he, hw.on hb⟩
end Go.Proofs.Yteehdjkmjncehaa
