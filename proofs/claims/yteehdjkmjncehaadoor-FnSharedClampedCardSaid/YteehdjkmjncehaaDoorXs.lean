/-
  The ladder's plain state; spec.X25519 (written by genxs.py).
-/
import Derived.Test.YteehdjkmjncehaaDoorSc
import Derived.Test.YteehdjkmjncehaaDoorIz
import Derived.Test.YteehdjkmjncehaaDoorClamp
import Derived.Test.YteehdjkmjncehaaDoorMC
namespace Go.Proofs.YteehdjkmjncehaaDoor
open Go.RowKit
/-- A point without its highest bit. -/
def topN (u : Nat) : Nat := u % 2 ^ 255
theorem topN_lt (u : Nat) : topN u < 2 ^ 256 := by unfold topN; omega
theorem bits_and127 : ∀ n : Nat, n < 256 → bits .and .u8 (n : Int) 127 = ((n % 128 : Nat) : Int) := by
  have h : ∀ n : Fin 256, bits .and .u8 ((n.val : Nat) : Int) 127 = ((n.val % 128 : Nat) : Int) := by decide +kernel
  exact fun n hn => h ⟨n, hn⟩
theorem top_arr (u : Nat) : (byA 32 u).setIfInBounds 31 (.int .u8 ((u / 256 ^ 31 % 256 % 128 : Nat) : Int)) = byA 32 (topN u) := by
  apply Array.ext_getElem?
  intro k
  rw [Array.getElem?_setIfInBounds]
  by_cases hk : k < 32
  · rw [byA_get hk, byA_get hk]
    by_cases h : 31 = k
    · subst h
      rw [if_pos rfl, if_pos (by rw [byA_size]; decide)]
      unfold bv topN
      congr 3
      omega
    · rw [if_neg h]
      unfold bv topN
      congr 3
      have e : (2 : Nat) ^ 255 = 256 ^ k * (256 * 2 ^ (247 - 8 * k)) := by
        rw [show (256 : Nat) = 2 ^ 8 by decide, ← Nat.pow_mul, ← Nat.pow_add, ← Nat.pow_add]
        congr 1; omega
      rw [e, Nat.mod_mul_right_div_self, Nat.mod_mul_right_mod]
  · rw [if_neg (by omega), Array.getElem?_eq_none (by rw [byA_size]; omega), Array.getElem?_eq_none (by rw [byA_size]; omega)]
/-- The ladder behind so many bits. -/
theorem ldr_ex : ∃ f : Nat → Nat → Nat → Num.Lad, ∀ u K j, f u K j = Num.lad p25 u K j := ⟨_, fun _ _ _ => rfl⟩
noncomputable def ldr : Nat → Nat → Nat → Num.Lad := Classical.choose ldr_ex
theorem ldr_eq (u K j : Nat) : ldr u K j = Num.lad p25 u K j := Classical.choose_spec ldr_ex u K j
theorem ldr_0 (u K : Nat) : ldr u K 0 = { x2 := 1, z2 := 0, x3 := u, z3 := 1, last := false } := ldr_eq u K 0
theorem ldr_s (u K j : Nat) : ldr u K (j + 1) = (ldr u K j).step p25 u (K.testBit (254 - j)) := by rw [ldr_eq, ldr_eq]; rfl
def bN (b : Bool) : Nat := if b then 1 else 0
theorem bN_le (b : Bool) : bN b ≤ 1 := by cases b <;> decide
theorem bit_bN (K q : Nat) : K / 2 ^ q % 2 = bN (K.testBit q) := by
  unfold bN
  rw [Nat.testBit_eq_decide_div_mod_eq]
  have : K / 2 ^ q % 2 < 2 := Nat.mod_lt _ (by decide)
  by_cases h : K / 2 ^ q % 2 = 1
  · rw [h]; rfl
  · rw [if_neg (by simpa using h)]; omega
theorem xor_bN (a b : Bool) : bits .xor .u64 ((bN a : Nat) : Int) ((bN b : Nat) : Int) = ((bN (Bool.xor a b) : Nat) : Int) := by cases a <;> cases b <;> decide +kernel
theorem bN_one (b : Bool) : bN b = 1 ↔ b = true := by cases b <;> decide
theorem fsub_cg {x z x' z' : Nat} (hx : x % p25 = x' % p25) (hz : z % p25 = z' % p25) : Num.fsub p25 x z = Num.fsub p25 x' z' := by
  unfold Num.fsub; rw [hz, Nat.add_mod, hx, ← Nat.add_mod]
theorem add_cg {x z x' z' : Nat} (hx : x % p25 = x' % p25) (hz : z % p25 = z' % p25) : (x + z) % p25 = (x' + z') % p25 := by
  rw [Nat.add_mod, hx, hz, ← Nat.add_mod]
theorem dbl_cg {x z x' z' : Nat} (hx : x % p25 = x' % p25) (hz : z % p25 = z' % p25) : Num.dblN p25 x z = Num.dblN p25 x' z' := by
  unfold Num.dblN; rw [fsub_cg hx hz, add_cg hx hz]
theorem addN_cg {u a b c d u' a' b' c' d' : Nat} (hu : u % p25 = u' % p25) (ha : a % p25 = a' % p25) (hb : b % p25 = b' % p25) (hc : c % p25 = c' % p25) (hd : d % p25 = d' % p25) : Num.addN p25 u a b c d = Num.addN p25 u' a' b' c' d' := by
  have hm : ∀ y, u * y % p25 = u' * y % p25 := fun y => by rw [Nat.mul_mod, hu, ← Nat.mul_mod]
  unfold Num.addN; simp only [fsub_cg ha hb, add_cg ha hb, fsub_cg hc hd, add_cg hc hd, hm]
/-- A step in the program's way is a step of the ladder. -/
theorem ldr_step {u K q w0 a b c d : Nat} (hq : q < 255) (hu : w0 % p25 = u % p25) (ha : a % p25 = (ldr u K (254 - q)).x2 % p25) (hb : b % p25 = (ldr u K (254 - q)).z2 % p25) (hc : c % p25 = (ldr u K (254 - q)).x3 % p25) (hd : d % p25 = (ldr u K (254 - q)).z3 % p25) {m : Nat} (hm : m = bN (Bool.xor (K.testBit q) (ldr u K (254 - q)).last)) :
    (dN m a b c d).1 = (ldr u K (255 - q)).x2 ∧ (dN m a b c d).2 = (ldr u K (255 - q)).z2 ∧ (aN m w0 a b c d).1 = (ldr u K (255 - q)).x3 ∧ (aN m w0 a b c d).2 = (ldr u K (255 - q)).z3 := by
  have e : ldr u K (255 - q) = (ldr u K (254 - q)).step p25 u (K.testBit q) := by
    rw [show 255 - q = (254 - q) + 1 by omega, ldr_s, show 254 - (254 - q) = q by omega]
  rw [e]
  generalize ldr u K (254 - q) = s at *
  unfold dN aN Num.Lad.step
  by_cases h : Bool.xor (K.testBit q) s.last = true
  · have h1 : m = 1 := by rw [hm, h]; rfl
    rw [if_pos h1, if_pos h1, if_pos h, dbl_cg hc hd, addN_cg hu hc hd ha hb]
    exact ⟨rfl, rfl, rfl, rfl⟩
  · have h1 : ¬ m = 1 := by rw [hm, bN_one]; exact h
    rw [if_neg h1, if_neg h1, if_neg h, dbl_cg ha hb, addN_cg hu ha hb hc hd]
    exact ⟨rfl, rfl, rfl, rfl⟩
theorem ldr_last {u K q : Nat} (hq : q < 255) : (ldr u K (255 - q)).last = K.testBit q := by
  have h := Num.lad_last p25 u K (254 - q)
  rw [show 254 - q + 1 = 255 - q by omega, show 254 - (254 - q) = q by omega, ← ldr_eq] at h
  exact h
theorem ldr_lt {u K : Nat} (hu : u < 2 ^ 256) : ∀ j, (ldr u K j).x2 < 2 ^ 256 ∧ (ldr u K j).z2 < 2 ^ 256 ∧ (ldr u K j).x3 < 2 ^ 256 ∧ (ldr u K j).z3 < 2 ^ 256
  | 0 => by rw [ldr_0]; exact ⟨show 1 < 2 ^ 256 by decide, show 0 < 2 ^ 256 by decide, hu, show 1 < 2 ^ 256 by decide⟩
  | j + 1 => by
    rw [ldr_s]
    unfold Num.Lad.step
    split
    · exact ⟨(dblN_lt _ _).1, (dblN_lt _ _).2, (addN_lt u _ _ _ _).1, (addN_lt u _ _ _ _).2⟩
    · exact ⟨(dblN_lt _ _).1, (dblN_lt _ _).2, (addN_lt u _ _ _ _).1, (addN_lt u _ _ _ _).2⟩
theorem clamp_even (k : Nat) : (clampN k).testBit 0 = false := by
  rw [Nat.testBit_eq_decide_div_mod_eq]
  unfold clampN
  simp only [Nat.pow_zero, Nat.div_one, decide_eq_false_iff_not]
  omega
/-- The ladder's answer. -/
noncomputable def ladV (u K : Nat) : Nat := (ldr u K 255).x2 * powN (ldr u K 255).z2 (p25 - 2) % p25
theorem ladV_out (u K : Nat) : ladV u K = Num.ladOut p25 u K := by
  unfold ladV Num.ladOut; rw [powN_eq, ldr_eq]
theorem ladV_lt (u K : Nat) : ladV u K < 2 ^ 256 := lt256 _
theorem idx_last : idxI 255 = 254 := rfl

theorem clampN_lt2 (v : Nat) : clampN v < 2 ^ 256 := Nat.lt_of_lt_of_eq (clampN_lt v) (by decide +kernel)
set_option maxRecDepth 100000 in
theorem x25519_p (k u : Nat) : Pure Tryd.prog 20 #[byV 32 k, byV 32 u] (byV 32 (ladV (topN u) (clampN k))) := by
  intro w
  refine calls_H (args := [byV 32 k, byV 32 u]) noD [] Tryd.func20 rfl (m := 54) rfl rfl (hold_nil _ _) ?_
  refine HC.seq ?_
  refine HC.region ?_
  refine HL.new (New.box rfl) (by decide) ?_
  intro b1 hb1
  refine HL.new (New.box rfl) (by decide) ?_
  intro b2 hb2
  refine HL.new (New.alloc al22) (by decide) ?_
  intro b3 hb3
  refine HL.nil ?_
  refine HQ.next ?_
  refine HC.seq ?_
  refine HC.region ?_
  refine HL.val (Val.load_row rfl (fun w hw => hw.at (i := 2) rfl) Tryd.underlying22 rfl (sz22 _)) (by decide) ?_
  refine HL.val (Val.call en29 (clamp19 k) rfl) (by decide) ?_
  refine HL.val (Val.call en10 (of23 ((clampN k))) rfl) (by decide) ?_
  refine HL.new (New.alloc al25) (by decide) ?_
  intro b4 hb4
  refine HL.put 0 rfl (Put.row rfl rfl (sz25 _) (eqszN _ _ 16) (oneN 16 _)) (.inl hb4) ?_
  simp only [List.set_cons_zero]
  refine HL.nil ?_
  refine HQ.next ?_
  refine HC.seq ?_
  refine HC.region ?_
  refine HL.val (Val.ixAddrQ 31 (i := 31) (m := 32) (s := 1) (e := 5) rfl rfl Tryd.underlying22 (by kernel_rfl) (by decide) (by decide)) (by decide) ?_
  refine HL.val (Val.load_cell rfl (fun w hw => hw.at (i := 2) rfl) (byA_get (n := 32) (v := u) (i := 31) (by decide)) Tryd.underlying5 rfl) (by decide) ?_
  refine HL.val ((Val.andI rfl rfl).as (congrArg (Value.int .u8) (bits_and127 (u / 256 ^ 31 % 256) (Nat.mod_lt _ (by decide))))) (by decide) ?_
  refine HL.val (Val.ixAddrQ 31 (i := 31) (m := 32) (s := 1) (e := 5) rfl rfl Tryd.underlying22 (by kernel_rfl) (by decide) (by decide)) (by decide) ?_
  refine HL.put 2 rfl ((Put.cell rfl rfl (by kernel_rfl) (by rw [byA_size]; decide) rfl).to (congrArg (fun z => Obj.cells z 22 (0, 0)) (top_arr u))) (.inl hb2) ?_
  simp only [List.set_cons_zero, List.set_cons_succ]
  refine HL.nil ?_
  refine HQ.next ?_
  refine HC.seq ?_
  refine HC.region ?_
  refine HL.val (Val.load_row rfl (fun w hw => hw.at (i := 2) rfl) Tryd.underlying22 rfl (sz22 _)) (by decide) ?_
  refine HL.val (Val.call en10 (of23 ((topN u))) rfl) (by decide) ?_
  refine HL.new (New.alloc al25) (by decide) ?_
  intro b5 hb5
  refine HL.put 0 rfl (Put.row rfl rfl (sz25 _) (eqszN _ _ 16) (oneN 16 _)) (.inl hb5) ?_
  simp only [List.set_cons_zero]
  refine HL.nil ?_
  refine HQ.next ?_
  refine HC.seq ?_
  refine HC.draw1 6 (by kernel_rfl) (by kernel_rfl) rfl ?_
  simp only [List.take, List.drop]
  refine HV.val (Val.load_row rfl (fun w hw => hw.at (i := 0) rfl) Tryd.underlying25 rfl (sz25 _)) (by decide) ?_
  refine HV.val (Val.call en35 (small35 1 (by decide)) rfl) (by decide) ?_
  refine HV.val (Val.build rfl bz25) (by decide) ?_
  refine HV.val (Val.load_row rfl (fun w hw => hw.at (i := 0) rfl) Tryd.underlying25 rfl (sz25 _)) (by decide) ?_
  refine HV.val (Val.call en35 (small35 1 (by decide)) rfl) (by decide) ?_
  refine HV.val (Val.build rfl (built_5 ((topN u)) 1 0 ((topN u)) 1)) (by decide) ?_
  refine HV.tail1 (New.alloc al49) (by decide) ?_
  intro b6 hb6
  refine HL.put 0 rfl (Put.row rfl rfl (sz49 _) (eqszN _ _ 80) (oneN 80 _)) (.inl hb6) ?_
  simp only [List.set_cons_zero]
  refine HL.nil ?_
  refine HQ.next ?_
  refine HC.seq ?_
  refine HC.region ?_
  refine HL.val (Val.assign rfl) (by decide) ?_
  refine HL.nil ?_
  refine HQ.next ?_
  refine HC.seq ?_
  refine HC.seq ?_
  refine HC.region ?_
  refine HL.val (Val.assign rfl) (by decide) ?_
  refine HL.nil ?_
  refine HQ.next ?_
  refine HC.block ?_
  refine HC.loop (ι := {p : Nat × Nat // p.1 ≤ 255 ∧ p.2 < 2 ^ 256 ∧ p.2 % p25 = topN u % p25}) (fun p => p.1.1) (fun p => [(9, .int .i64 (idxI p.1.1)), (8, .int .u64 ((bN (ldr (topN u) (clampN k) (255 - p.1.1)).last : Nat) : Int)), (4, .pointer (some ⟨b3, 0, none⟩)), (5, .pointer (some ⟨b4, 0, none⟩)), (7, .pointer (some ⟨b6, 0, none⟩))]) (fun p => [(b6, .cells (dgA 80 (w5F p.1.2 (ldr (topN u) (clampN k) (255 - p.1.1)).x2 (ldr (topN u) (clampN k) (255 - p.1.1)).z2 (ldr (topN u) (clampN k) (255 - p.1.1)).x3 (ldr (topN u) (clampN k) (255 - p.1.1)).z3)) 49 (0, 0)), (b4, .cells (dgA 16 (dig (clampN k))) 25 (0, 0)), (b3, .cells (byA 32 0) 22 (0, 0))]) ⟨(255, topN u), Nat.le_refl _, topN_lt u, rfl⟩ (fun ac wc ha hw => ⟨by dsimp only; rw [Nat.sub_self, ldr_0, idx_last]; exact ha.subS ⟨rfl, rfl, rfl, rfl, rfl, trivial⟩, by have h := hw.pick [0, 2, 3] (by simp); simp only [List.filterMap_cons, List.filterMap_nil, List.getElem?_cons_zero, List.getElem?_cons_succ] at h; dsimp only; rw [Nat.sub_self, ldr_0]; exact h⟩) ?_
  rintro ⟨⟨q, v⟩, hq, hv⟩
  dsimp only at hq hv ⊢
  rcases (show q = 0 ∨ ∃ r, q = r + 1 ∧ r < 255 from by rcases q with _ | q; exact .inl rfl; exact .inr ⟨q, rfl, by omega⟩) with rfl | ⟨q, rfl, hm⟩
  · rw [idxI_0, Nat.sub_zero, show (ldr (topN u) (clampN k) 255).last = false from (ldr_last (q := 0) (by decide)).trans (clamp_even k)]
    refine HC.seq ?_
    refine HC.seq ?_
    refine HC.region ?_
    refine HL.val (Val.move rfl) (by decide) ?_
    refine HL.val ((Val.geq rfl rfl).as (v := .bool false) rfl) (by decide) ?_
    refine HL.nil ?_
    refine HQ.next ?_
    refine HC.no rfl ?_
    refine HC.exit ?_
    refine HQ.thenExit ?_
    refine HQ.thenExit ?_
    refine HQ.blockExit ?_
    refine HQ.next ?_
    refine HC.seq ?_
    refine HC.seq ?_
    refine HC.region ?_
    refine HL.val (Val.move rfl) (by decide) ?_
    refine HL.val (Val.eqlI rfl rfl) (by decide) ?_
    refine HL.nil ?_
    refine HQ.next ?_
    refine HC.no rfl ?_
    refine HC.skip ?_
    refine HQ.next ?_
    refine HC.seq ?_
    refine HC.draw0 7 (by kernel_rfl) (by kernel_rfl) ?_
    simp only [List.take, List.drop]
    refine HV.val (Val.ixAddrQ 16 (i := 1) (m := 5) (s := 16) (e := 25) rfl rfl Tryd.underlying49 (by kernel_rfl) (by decide) (by decide)) (by decide) ?_
    refine HV.val (Val.load_mid rfl (fun w hw => hw.at (i := 0) rfl) (dgA 16 (dig ((ldr (topN u) (clampN k) 255).x2))) (w5_get1 _ _ _ _ _) Tryd.underlying25 rfl (sz25 _)) (by decide) ?_
    refine HV.val (Val.ixAddrQ 32 (i := 2) (m := 5) (s := 16) (e := 25) rfl rfl Tryd.underlying49 (by kernel_rfl) (by decide) (by decide)) (by decide) ?_
    refine HV.val (Val.load_mid rfl (fun w hw => hw.at (i := 0) rfl) (dgA 16 (dig ((ldr (topN u) (clampN k) 255).z2))) (w5_get2 _ _ _ _ _) Tryd.underlying25 rfl (sz25 _)) (by decide) ?_
    refine HV.val (Val.call en39 (sinv_p ((ldr (topN u) (clampN k) 255).z2) (ldr_lt (topN_lt u) _).2.1) rfl) (by decide) ?_
    refine HV.val (Val.call en38 (mul34 ((ldr (topN u) (clampN k) 255).x2) ((powN ((ldr (topN u) (clampN k) 255).z2) (p25 - 2))) (ldr_lt (topN_lt u) _).1 (powN_lt _ _)) rfl) (by decide) ?_
    refine HV.val (Val.call en12 (bytes25 (((((ldr (topN u) (clampN k) 255).x2) * ((powN ((ldr (topN u) (clampN k) 255).z2) (p25 - 2)))) % p25))) rfl) (by decide) ?_
    refine HV.tail0 ?_
    refine HL.put 2 rfl (Put.row rfl rfl (sz22 _) (eqsz32 _ _) (one32 _)) (.inl hb3) ?_
    simp only [List.set_cons_zero, List.set_cons_succ]
    refine HL.nil ?_
    refine HQ.next ?_
    refine HC.ret ?_
    exact HQ.retc 2 rfl rfl rfl Tryd.underlying22 rfl (sz22 _) (pure_end rfl)
  · rw [idxI_s, show 255 - (q + 1) = 254 - q by omega]
    refine HC.seq ?_
    refine HC.seq ?_
    refine HC.region ?_
    refine HL.val (Val.move rfl) (by decide) ?_
    refine HL.val ((Val.geq rfl rfl).as (congrArg Value.bool (geqI q))) (by decide) ?_
    refine HL.nil ?_
    refine HQ.next ?_
    refine HC.yes rfl ?_
    refine HC.skip ?_
    refine HQ.next ?_
    refine HC.seq ?_
    refine HC.block ?_
    refine HC.seq ?_
    refine HC.region ?_
    refine HL.val (Val.load_row rfl (fun w hw => hw.at (i := 1) rfl) Tryd.underlying25 rfl (sz25 _)) (by decide) ?_
    refine HL.val (Val.move rfl) (by decide) ?_
    refine HL.val ((Val.call en37 (bit_p (clampN k) q (by omega)) rfl).as (congrArg (fun z : Nat => Value.int .u64 (z : Int)) (bit_bN (clampN k) q))) (by decide) ?_
    refine HL.val (Val.assign rfl) (by decide) ?_
    refine HL.nil ?_
    refine HQ.next ?_
    refine HC.seq ?_
    refine HC.region ?_
    refine HL.val (Val.load_row rfl (fun w hw => hw.at (i := 0) rfl) Tryd.underlying49 rfl (sz49 _)) (by decide) ?_
    refine HL.val (Val.move rfl) (by decide) ?_
    refine HL.val (Val.move rfl) (by decide) ?_
    refine HL.val ((Val.xorI rfl rfl).as (congrArg (Value.int .u64) (xor_bN ((clampN k).testBit q) (ldr (topN u) (clampN k) (254 - q)).last))) (by decide) ?_
    refine HL.val (Val.call en36 (specStep v ((ldr (topN u) (clampN k) (254 - q)).x2) ((ldr (topN u) (clampN k) (254 - q)).z2) ((ldr (topN u) (clampN k) (254 - q)).x3) ((ldr (topN u) (clampN k) (254 - q)).z3) (bN (Bool.xor ((clampN k).testBit q) (ldr (topN u) (clampN k) (254 - q)).last)) hv.1 (ldr_lt (topN_lt u) _).1 (ldr_lt (topN_lt u) _).2.1 (ldr_lt (topN_lt u) _).2.2.1 (ldr_lt (topN_lt u) _).2.2.2 (bN_le _)) rfl) (by decide) ?_
    refine HL.put 0 rfl (Put.row rfl rfl (sz49 _) (eqszN _ _ 80) (oneN 80 _)) (.inl hb6) ?_
    simp only [List.set_cons_zero]
    refine HL.nil ?_
    refine HQ.next ?_
    refine HC.region ?_
    refine HL.val (Val.move rfl) (by decide) ?_
    refine HL.val (Val.assign rfl) (by decide) ?_
    refine HL.nil ?_
    refine HQ.blockNormal ?_
    refine HQ.next ?_
    refine HC.region ?_
    refine HL.val (Val.move rfl) (by decide) ?_
    refine HL.val ((Val.subI rfl rfl).as (congrArg (Value.int .i64) (idxI_wrap (q := q) (by omega)))) (by decide) ?_
    refine HL.val (Val.assign rfl) (by decide) ?_
    refine HL.nil ?_
    obtain ⟨g1, g2, g3, g4⟩ := ldr_step hm hv.2 rfl rfl rfl rfl (m := bN (Bool.xor ((clampN k).testBit q) (ldr (topN u) (clampN k) (254 - q)).last)) rfl
    exact ⟨fun ac wc ha hw => ⟨⟨(q, v % p25), by omega, lt256 _, by rw [Nat.mod_mod]; exact hv.2⟩, by dsimp only; omega, by dsimp only; rw [ldr_last hm]; exact ha.subS ⟨rfl, rfl, rfl, rfl, rfl, trivial⟩, by have h := hw.pick [0, 1, 2] (by simp); simp only [List.filterMap_cons, List.filterMap_nil, List.getElem?_cons_zero, List.getElem?_cons_succ] at h; rw [g1, g2, g3, g4] at h; exact h⟩⟩
end Go.Proofs.YteehdjkmjncehaaDoor
