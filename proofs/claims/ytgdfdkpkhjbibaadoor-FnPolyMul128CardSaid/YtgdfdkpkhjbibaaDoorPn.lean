/-
  The product by transforms (written by genpn.py).
-/
import Derived.Test.YtgdfdkpkhjbibaaDoorPm
namespace Go.Proofs.YtgdfdkpkhjbibaaDoor
open Go.RowKit
/-- A list's transform. -/
def tr (x : List Nat) (K e : Nat) : Nat := evN (2 ^ K) (gd x) (rt K ^ e) % pf
theorem tr_lt (x : List Nat) (K e : Nat) : tr x K e < pf := Nat.mod_lt _ pf_pos
/-- The product of two transforms. -/
def ptL (x u : List Nat) (K : Nat) : List Nat := (List.range (2 ^ K)).map fun e => tr x K e * tr u K e % pf
theorem ptL_len (x u : List Nat) (K : Nat) : (ptL x u K).length = 2 ^ K := by simp [ptL]
theorem ptL_lt (x u : List Nat) (K : Nat) : AllLt (ptL x u K) := allLt_mapR fun _ _ => Nat.mod_lt _ pf_pos
theorem ptL_at (x u : List Nat) {K e : Nat} (h : e < 2 ^ K) : (ptL x u K).getD e 0 = tr x K e * tr u K e % pf := mapR_get (fun e => tr x K e * tr u K e % pf) h
theorem evN_long {x : List Nat} {M : Nat} (h : x.length ≤ M) (z : Nat) : evN M (gd x) z = evN x.length (gd x) z :=
  sumN_to (fun k hk => by rw [gd_zero x k (by omega), Nat.zero_mul]) (fun k hk => by rw [gd_zero x k hk, Nat.zero_mul])
theorem mul_back {x u : List Nat} {K i : Nat} (hK : K ≤ 66) (h1 : 0 < x.length) (h2 : 0 < u.length) (hN : x.length + u.length ≤ 2 ^ K + 1) (hi : i < 2 ^ K) :
    tr (ptL x u K) K ((2 ^ K - i) % 2 ^ K) * (halfP ^ K % pf) % pf = pst (gd x) (gd u) x.length 0 i := by
  have hc : ∀ k, k < 2 ^ K → Cg (gd (ptL x u K) k) (evN (2 ^ K) (cf (gd x) (gd u) x.length) (rt K ^ k)) := fun k hk => by
    rw [evN_cf (gd x) (gd u) (gd_zero u) (rt K ^ k) x.length (2 ^ K) hN h2]
    show Cg ((ptL x u K).getD k 0) _
    rw [ptL_at x u hk]
    refine (Cg.mod _).trans ?_
    unfold tr
    rw [evN_long (x := x) (by omega), evN_long (x := u) (by omega)]
    exact (Cg.mod _).mul (Cg.mod _)
  have hb := back (w := rt) (by rw [rt_0]; exact Cg.refl _) (L := 66) (fun l hl => rt_cg hl) rt_neg hK hc hi
  have hh : Cg (halfP ^ K % pf * 2 ^ K) 1 := by
    have := half_pow K
    show _ % pf = 1 % pf
    rw [Nat.mod_eq_of_lt one_lt, ← Nat.mul_mod_mod]; exact this
  have e1 : Cg (tr (ptL x u K) K ((2 ^ K - i) % 2 ^ K) * (halfP ^ K % pf)) (cf (gd x) (gd u) x.length i) := by
    refine (((Cg.mod _).trans hb).mul (Cg.refl _)).trans ?_
    refine (Cg.of_eq (show 2 ^ K * cf (gd x) (gd u) x.length i * (halfP ^ K % pf) = (halfP ^ K % pf * 2 ^ K) * cf (gd x) (gd u) x.length i by rw [Nat.mul_comm (2 ^ K) _, Nat.mul_assoc, Nat.mul_comm (2 ^ K), Nat.mul_comm])).trans ?_
    exact (hh.mul (Cg.refl _)).trans (Cg.of_eq (Nat.one_mul _))
  unfold pst
  rw [if_neg (by omega), Nat.add_zero]
  exact e1
def w1F (x : List Nat) (K : Nat) : Nat → Nat := nst (fun _ => 0) (tr x K) 0 (2 ^ K)
def w2F (x u : List Nat) (K : Nat) : Nat → Nat := nst (w1F x K) (tr u K) (2 ^ K) (2 ^ K)
/-- Behind i products. -/
def cm (x u : List Nat) (K i e : Nat) : Nat := if e < i then tr x K e * tr u K e % pf else tr x K e
theorem cm_lt (x u : List Nat) (K i e : Nat) : cm x u K i e < pf := by
  unfold cm; split
  · exact Nat.mod_lt _ pf_pos
  · exact tr_lt _ _ _
theorem cm_at (x u : List Nat) (K i : Nat) : cm x u K i i = tr x K i := by unfold cm; rw [if_neg (by omega)]
theorem cm_step (x u : List Nat) (K i e : Nat) : upd (cm x u K i) i (cm x u K i i * tr u K i % pf) e = cm x u K (i + 1) e := by
  rw [cm_at]
  by_cases h : e = i
  · subst h; rw [upd_eq]; unfold cm; rw [if_pos (by omega)]
  · rw [upd_ne _ _ h]; unfold cm
    by_cases h2 : e < i
    · rw [if_pos h2, if_pos (by omega)]
    · rw [if_neg h2, if_neg (by omega)]
def w3F (x u : List Nat) (K : Nat) : Nat → Nat := nst (w2F x u K) (cm x u K (2 ^ K)) 0 (2 ^ K)
def w4F (x u : List Nat) (K : Nat) : Nat → Nat := nst (w3F x u K) (fun e => tr (ptL x u K) K ((2 ^ K - e) % 2 ^ K)) (2 ^ K) (2 ^ K)
theorem w2_lo (x u : List Nat) {K e : Nat} (h : e < 2 ^ K) : w2F x u K e = tr x K e := by
  unfold w2F nst; rw [if_neg (by omega)]; unfold w1F nst; rw [if_pos (by omega), Nat.sub_zero]
theorem w2_hi (x u : List Nat) {K e : Nat} (h : e < 2 ^ K) : w2F x u K (2 ^ K + e) = tr u K e := by
  unfold w2F nst; rw [if_pos (by omega), Nat.add_sub_cancel_left]
theorem w3_lo (x u : List Nat) {K e : Nat} (h : e < 2 ^ K) : w3F x u K e = tr x K e * tr u K e % pf := by
  unfold w3F nst; rw [if_pos (by omega), Nat.sub_zero]; unfold cm; rw [if_pos h]
theorem w4_hi (x u : List Nat) {K e : Nat} (h : e < 2 ^ K) : w4F x u K (2 ^ K + e) = tr (ptL x u K) K ((2 ^ K - e) % 2 ^ K) := by
  unfold w4F nst; rw [if_pos (by omega), Nat.add_sub_cancel_left]
theorem cm_zero (x u : List Nat) (K M : Nat) : (List.range M).map (w2F x u K) = lsT (w2F x u K) (cm x u K 0) 0 (2 ^ K) M := by
  rw [← lsT_id (w2F x u K) 0 (2 ^ K) M]
  exact lsT_congr fun e he => by rw [Nat.zero_add, w2_lo x u he]; unfold cm; rw [if_neg (by omega)]
/-- What is copied out. -/
def cpL (x u : List Nat) (K m : Nat) : List Nat := (List.range m).map fun e => tr (ptL x u K) K ((2 ^ K - e) % 2 ^ K)
theorem cpL_len (x u : List Nat) (K m : Nat) : (cpL x u K m).length = m := by simp [cpL]
theorem cpL_at (x u : List Nat) (K : Nat) {m e : Nat} (h : e < m) : (cpL x u K m).getD e 0 = tr (ptL x u K) K ((2 ^ K - e) % 2 ^ K) := mapR_get (fun e => tr (ptL x u K) K ((2 ^ K - e) % 2 ^ K)) h
theorem cpL_lt (x u : List Nat) (K m : Nat) : AllLt (cpL x u K m) := allLt_mapR fun _ _ => tr_lt _ _ _
theorem cp_prod {x u : List Nat} {K : Nat} (hK : K ≤ 66) (h1 : 0 < x.length) (h2 : 0 < u.length) (hN : x.length + u.length ≤ 2 ^ K + 1) :
    (List.range (x.length + u.length - 1)).map (fun i => (cpL x u K (x.length + u.length - 1)).getD i 0 * (halfP ^ K % pf) % pf) = prodL x u := List.map_congr_left fun i hi => by
  have hi := List.mem_range.1 hi
  rw [show (cpL x u K (x.length + u.length - 1)).getD i 0 = tr (ptL x u K) K ((2 ^ K - i) % 2 ^ K) from mapR_get _ hi]
  exact mul_back hK h1 h2 hN (by omega)
theorem flat_part {f : Nat → Array Value} {k : Nat} (hk : 0 < k) (hf : ∀ x, (f x).size = k) {l m : List Nat} {o : Nat} (hm : o + m.length ≤ l.length) (h : ∀ i, i < m.length → l.getD (o + i) 0 = m.getD i 0) : ∀ j v, (flat f m)[j]? = some v → (flat f l)[o * k + j]? = some v := fun j v hj => by
  have hlt : j < m.length * k := by
    have := (Array.getElem?_eq_some_iff.1 hj).1
    rwa [flat_size hf] at this
  have hi : j / k < m.length := Nat.div_lt_of_lt_mul (by rwa [Nat.mul_comm])
  have hr : j % k < k := Nat.mod_lt _ hk
  have e : j = j / k * k + j % k := by rw [Nat.mul_comm]; exact (Nat.div_add_mod j k).symm
  have h1 := flat_get hf hi (j % k) (by rw [hf]; exact hr)
  rw [← e, hj] at h1
  have h2 := flat_get hf (l := l) (i := o + j / k) (by omega) (j % k) (by rw [hf]; exact hr)
  rw [h _ hi, ← h1, Nat.add_mul, Nat.add_assoc, ← e] at h2
  exact h2
theorem memF (l : List Nat) : ∀ v ∈ flat fpC l, v.oneCell' = true := fun v hv => by
  unfold flat at hv
  have hv : v ∈ l.flatMap fun x => (fpC x).toList := by simpa using hv
  obtain ⟨x, _, hx⟩ := List.mem_flatMap.1 hv
  have h := rawC_one (mont x)
  rw [Array.all_eq_true_iff_forall_mem] at h
  exact h v (by simpa using hx)
theorem mul2U {m : Nat} (h : m ≤ 64) : IntKind.u64.wrap (2 * (m : Int)) = ((2 * m : Nat) : Int) := by
  rw [IntKind.wrap_u64]; omega

theorem nextPowK {x K : Nat} {w : World} (hK : lg x = K) (hd : DB w) (hs : x < 65) (h0 : ¬ x = 0) : Calls Tryd.prog 122 #[.int .u64 (x : Int)] w fun e w' => e = .returned (.tuple #[.int .u64 ((2 ^ K : Nat) : Int), .int .u64 ((K : Nat) : Int)]) ∧ Below w.heap.size w w' := by
  subst hK; exact nextPow_any hd hs h0
section
variable {x u : List Nat} {K b c d1 o1 c1 : Nat} {ad1 : Option Addr} {w : World}
theorem ntt1 (hk : K < 7) (ht : RT w) (hd : DB w) (h0 : w.heap[b]? = some (.cells (flat fpC (List.replicate (2 * 2 ^ K) 0)) 81 (0, 0))) (hbT : 1 ≠ b) (hbD : 11 ≠ b) (hp : AllLt x) (hl : x.length ≤ 100000) (hs : SlA fpC 2 w ad1 d1 o1 x) (hne : d1 ≠ b) :
    Calls Tryd.prog 100 #[.slice (some ⟨b, 0, none⟩) (2 ^ K) c, .slice ad1 x.length c1, .int .u64 ((2 ^ K : Nat) : Int)] w fun e w' => e = .returned (.tuple #[]) ∧ Hold (fun k => k == b) w [(b, .cells (flat fpC ((List.range (2 * 2 ^ K)).map (w1F x K))) 81 (0, 0))] w' := by
  rw [rep_map] at h0
  have h := ntt_any (F := fun _ => 0) (x := x) (k := K) (o := 0) (M := 2 * 2 ^ K) (b := b) (c := c) (adx := ad1) (bx := d1) (ox := o1) (cx := c1) hk (by omega) ht hd h0 hbT hbD hp hl (fun _ _ _ => rfl) (fun h => hs.at h) (fun w' T hS _ j hj => sl_at (hs.sn szE hS (beq_false_of_ne hne)) hj)
  rw [Nat.zero_mul] at h
  exact h
theorem ntt2 (hk : K < 7) (ht : RT w) (hd : DB w) (h0 : w.heap[b]? = some (.cells (flat fpC ((List.range (2 * 2 ^ K)).map (w1F x K))) 81 (0, 0))) (hbT : 1 ≠ b) (hbD : 11 ≠ b) (hp : AllLt u) (hl : u.length ≤ 100000) (hs : SlA fpC 2 w ad1 d1 o1 u) (hne : d1 ≠ b) :
    Calls Tryd.prog 100 #[.slice (some ⟨b, 2 ^ K * 2, none⟩) (2 ^ K) c, .slice ad1 u.length c1, .int .u64 ((2 ^ K : Nat) : Int)] w fun e w' => e = .returned (.tuple #[]) ∧ Hold (fun k => k == b) w [(b, .cells (flat fpC ((List.range (2 * 2 ^ K)).map (w2F x u K))) 81 (0, 0))] w' :=
  ntt_any (F := w1F x K) (x := u) (k := K) (o := 2 ^ K) (M := 2 * 2 ^ K) hk (by omega) ht hd h0 hbT hbD hp hl (fun e he _ => by unfold w1F nst; rw [if_neg (by omega)]) (fun h => hs.at h) (fun w' T hS _ j hj => sl_at (hs.sn szE hS (beq_false_of_ne hne)) hj)
theorem ntt3 (hk : K < 7) (hc : 2 ^ K ≤ c) (ht : RT w) (hd : DB w) (h0 : w.heap[b]? = some (.cells (flat fpC (lsT (w2F x u K) (cm x u K (2 ^ K)) 0 (2 ^ K) (2 * 2 ^ K))) 81 (0, 0))) (hbT : 1 ≠ b) (hbD : 11 ≠ b) :
    Calls Tryd.prog 99 #[.slice (some ⟨b, 2 ^ K * 2, none⟩) (2 ^ K) c, .slice (some ⟨b, 0, none⟩) (2 ^ K) c1, .int .u64 ((2 ^ K : Nat) : Int)] w fun e w' => e = .returned (.tuple #[]) ∧ Hold (fun k => k == b) w [(b, .cells (flat fpC ((List.range (2 * 2 ^ K)).map (w4F x u K))) 81 (0, 0))] w' := by
  have hpk := p2_le hk (Nat.le_refl K)
  have h := invntt_any (F := w3F x u K) (x := ptL x u K) (k := K) (o := 2 ^ K) (M := 2 * 2 ^ K) (b := b) (c := c) (adx := some ⟨b, 0, none⟩) (bx := b) (ox := 0) (cx := c1) hk (by omega) hc ht hd h0 hbT hbD (ptL_lt x u K) (by rw [ptL_len]; omega) (fun e he h => absurd (rev_lt K e) (by rw [ptL_len] at h; omega)) (fun _ => rfl)
    (fun w' T hS hb j hj => by
      rw [ptL_len] at hj
      have h2 := els_at hb (i := j) (by rw [lsT_len]; omega)
      have e : (lsT (w3F x u K) T (2 ^ K) (2 ^ K) (2 * 2 ^ K)).getD j 0 = (ptL x u K).getD j 0 := by
        unfold lsT
        rw [mapR_get _ (show j < 2 * 2 ^ K by omega), ptL_at x u hj]
        unfold nst
        rw [if_neg (by omega), w3_lo x u hj]
      rw [e] at h2
      rwa [Nat.zero_add])
  rw [ptL_len] at h
  exact h
end

theorem scalK {l : List Nat} {m b T c : Nat} {bx ox x : Nat} {w : World} (hm : l.length = m) (h0 : w.heap[b]? = some (.cells (flat fpC l) T (0, 0))) (hl : AllLt l) (hll : m ≤ 100000) (hx : FpAt w bx ox x) (px : x < pf) (hne : bx ≠ b) :
    Calls Tryd.prog 96 #[.slice (some ⟨b, 0, none⟩) m c, .pointer (some ⟨bx, ox, none⟩)] w fun e w' => e = .returned (.tuple #[]) ∧ Hold (fun k => k == b) w [(b, .cells (flat fpC ((List.range m).map fun i => l.getD i 0 * x % pf)) T (0, 0))] w' := by
  subst hm; exact vScalarMul_any h0 hl hll hx px hne
theorem locO {D : Nat → Bool} {w0 : World} {η : List (Nat × Obj)} (k : Nat) {b TT e K : Nat} {x u : List Nat} {T : Nat → Nat} (h : η[k]? = some (b, .cells (flat fpC (lsT (w2F x u K) T 0 (2 ^ K) (2 * 2 ^ K))) TT (0, 0))) (he : e < 2 ^ K) : LocF D w0 η b (2 ^ K * 2 + e * 2) (tr u K e) := by
  have h2 := locE (D := D) (w0 := w0) k h (i := 2 ^ K + e) (by rw [lsT_len]; omega)
  rw [show (lsT (w2F x u K) T 0 (2 ^ K) (2 * 2 ^ K)).getD (2 ^ K + e) 0 = tr u K e from by
    unfold lsT
    rw [mapR_get _ (show 2 ^ K + e < 2 * 2 ^ K by omega)]
    unfold nst
    rw [if_neg (by omega), w2_hi x u he], Nat.add_mul] at h2
  exact h2

set_option maxRecDepth 100000 in
theorem mulLog_any {x u r : List Nat} {b k0 c0 : Nat} {ad1 ad2 : Option Addr} {d1 o1 c1 d2 o2 c2 : Nat} {w0 : World} (ht : RT w0) (hd : DB w0) (hh : HF w0) (h0 : w0.heap[b]? = some (.cells (flat fpC r) 81 (0, 0))) (hr : r.length = k0) (hk0 : k0 = (x.length + u.length - 1)) (h1 : 0 < x.length) (h2 : 0 < u.length) (hs1 : SlA fpC 2 w0 ad1 d1 o1 x) (hp1 : AllLt x) (hs2 : SlA fpC 2 w0 ad2 d2 o2 u) (hp2 : AllLt u) (hn1 : d1 ≠ b) (hn2 : d2 ≠ b) (hbT : 1 ≠ b) (hbD : 11 ≠ b) (hbH : 6 ≠ b) (hl : x.length + u.length ≤ 65) :
    Calls Tryd.prog 103 #[.slice (some ⟨b, 0, none⟩) k0 c0, .slice ad1 x.length c1, .slice ad2 u.length c2] w0 fun e w' => e = .returned (.tuple #[]) ∧ Hold (fun k => k == b) w0 [(b, .cells (flat fpC (prodL x u)) 81 (0, 0))] w' := by
  obtain ⟨K, hK⟩ : ∃ K, lg (x.length + u.length - 1) = K := ⟨_, rfl⟩
  have hk : K < 7 := by have := lg_le (x := (x.length + u.length - 1)) (by omega) (by omega); omega
  have hge : (x.length + u.length - 1) ≤ 2 ^ K := hK ▸ lg_ge (x := (x.length + u.length - 1)) (by omega) (by omega)
  have hpk := p2_le hk (Nat.le_refl K)
  have hpp := Nat.two_pow_pos K
  have hlt1 : d1 < w0.heap.size := World.block_lt_of_cell? w0 ⟨d1, o1 + 0 * 2 + 0, none⟩ ((sl_at hs1 h1) 0 _ rfl)
  have hlt2 : d2 < w0.heap.size := World.block_lt_of_cell? w0 ⟨d2, o2 + 0 * 2 + 0, none⟩ ((sl_at hs2 h2) 0 _ rfl)
  refine calls_H (args := [.slice (some ⟨b, 0, none⟩) k0 c0, .slice ad1 x.length c1, .slice ad2 u.length c2]) (fun k => k == b) [(b, .cells (flat fpC r) 81 (0, 0))] Tryd.func103 rfl (m := 69) rfl rfl (hold_one h0) ?_
  refine HC.seq ?_
  refine HC.region ?_
  refine HL.val (Val.move rfl) (by decide) ?_
  refine HL.val (Val.move rfl) (by decide) ?_
  refine HL.val (Val.move rfl) (by decide) ?_
  refine HL.val (Val.call en120 (sumLen_p _ _ _ _ _ _ _ _ _ hk0 h1 (by omega)) rfl) (by decide) ?_
  refine HL.nil ?_
  refine HQ.next ?_
  refine HC.seq ?_
  refine HC.region ?_
  refine HL.val (Val.move rfl) (by decide) ?_
  refine HL.val (Val.lenS rfl rfl Tryd.underlying102) (by decide) ?_
  refine HL.val (Val.move rfl) (by decide) ?_
  refine HL.val (Val.lenS rfl rfl Tryd.underlying102) (by decide) ?_
  refine HL.val ((Val.addI rfl rfl).as (congrArg (Value.int .i64) (addN x.length u.length (by omega)))) (by decide) ?_
  refine HL.val ((Val.subI rfl rfl).as (congrArg (Value.int .i64) (sub1N (by omega) (by omega)))) (by decide) ?_
  refine HL.val ((Val.convI rfl rfl Tryd.underlying22).as (congrArg (Value.int .u64) (wrapUn (k := (x.length + u.length - 1)) (by omega)))) (by decide) ?_
  refine HL.val (Val.calls en122 (fun w hw => nextPowK hK (hd.sn hw.sn (beq_false_of_ne hbD)) (by omega) (by omega)) rfl) (by decide) ?_
  refine HL.val (Val.move rfl) (by decide) ?_
  refine HL.val (Val.extract rfl rfl) (by decide) ?_
  refine HL.val (Val.extract rfl rfl) (by decide) ?_
  refine HL.val (Val.assign rfl) (by decide) ?_
  refine HL.val (Val.assign rfl) (by decide) ?_
  refine HL.nil ?_
  refine HQ.next ?_
  refine HC.seq ?_
  refine HC.region ?_
  refine HL.val (Val.move rfl) (by decide) ?_
  refine HL.val ((Val.mulI rfl rfl).as (congrArg (Value.int .u64) (mul2U (m := 2 ^ K) hpk))) (by decide) ?_
  refine HL.new (New.make (s := 2) (by' := 16) (z := .agg (rawC 0)) (2 * 2 ^ K) rfl rfl Tryd.underlying105 (by kernel_rfl) (by kernel_rfl) (by kernel_rfl) (by omega) (by omega) made_els) (by decide) ?_
  intro b1 hb1
  refine HL.val (Val.assign rfl) (by decide) ?_
  refine HL.nil ?_
  refine HQ.next ?_
  refine HC.seq ?_
  refine HC.draw0 7 (by kernel_rfl) (by kernel_rfl) ?_
  simp only [List.take, List.drop]
  refine HV.val (Val.move rfl) (by decide) ?_
  refine HV.val (Val.move rfl) (by decide) ?_
  refine HV.val (Val.sliceSTo (s := 2) (h := 2 ^ K) rfl rfl Tryd.underlying105 (by kernel_rfl) (by omega)) (by decide) ?_
  refine HV.val (Val.move rfl) (by decide) ?_
  refine HV.val (Val.move rfl) (by decide) ?_
  refine HV.val ((Val.sliceSFrom (s := 2) (h := 2 ^ K) (2 ^ K * 2) rfl rfl Tryd.underlying105 (by kernel_rfl) (by omega) (by rw [if_neg (by omega), Nat.zero_add])).as (congrArg (fun z => Value.slice (some ⟨b1, 2 ^ K * 2, none⟩) z z) (show 2 * 2 ^ K - 2 ^ K = 2 ^ K by omega))) (by decide) ?_
  refine HV.val (Val.assign rfl) (by decide) ?_
  refine HV.tail0 ?_
  refine HL.val (Val.assign rfl) (by decide) ?_
  refine HL.nil ?_
  refine HQ.next ?_
  refine HC.seq ?_
  refine HC.region ?_
  refine HL.val (Val.move rfl) (by decide) ?_
  refine HL.val (Val.move rfl) (by decide) ?_
  refine HL.val (Val.move rfl) (by decide) ?_
  refine HL.callD en100 rfl (fun w1 hw => lift_one hw (i := 0) rfl (.inl hb1) (ntt1 hk (ht.sn hw.sn (beq_false_of_ne hbT)) (hd.sn hw.sn (beq_false_of_ne hbD)) (hw.at (i := 0) rfl) (Nat.ne_of_lt (Nat.lt_of_lt_of_le ht.lt hb1)) (Nat.ne_of_lt (Nat.lt_of_lt_of_le (db_lt hd) hb1)) hp1 (by omega) (hs1.sn szE hw.sn (beq_false_of_ne hn1)) (Nat.ne_of_lt (Nat.lt_of_lt_of_le hlt1 hb1)))) (by decide) ?_
  simp only [List.set_cons_zero]
  refine HL.nil ?_
  refine HQ.next ?_
  refine HC.seq ?_
  refine HC.region ?_
  refine HL.val (Val.move rfl) (by decide) ?_
  refine HL.val (Val.move rfl) (by decide) ?_
  refine HL.val (Val.move rfl) (by decide) ?_
  refine HL.callD en100 rfl (fun w1 hw => lift_one hw (i := 0) rfl (.inl hb1) (ntt2 hk (ht.sn hw.sn (beq_false_of_ne hbT)) (hd.sn hw.sn (beq_false_of_ne hbD)) (hw.at (i := 0) rfl) (Nat.ne_of_lt (Nat.lt_of_lt_of_le ht.lt hb1)) (Nat.ne_of_lt (Nat.lt_of_lt_of_le (db_lt hd) hb1)) hp2 (by omega) (hs2.sn szE hw.sn (beq_false_of_ne hn2)) (Nat.ne_of_lt (Nat.lt_of_lt_of_le hlt2 hb1)))) (by decide) ?_
  simp only [List.set_cons_zero]
  refine HL.nil ?_
  refine HQ.next ?_
  refine HC.seq ?_
  refine HC.seq ?_
  refine HC.region ?_
  refine HL.val (Val.move rfl) (by decide) ?_
  refine HL.val (Val.lenS rfl rfl Tryd.underlying105) (by decide) ?_
  refine HL.val (Val.move rfl) (by decide) ?_
  refine HL.nil ?_
  refine HQ.next ?_
  refine HC.block ?_
  refine HC.loop (ι := {p : Nat // p ≤ 2 ^ K}) (fun p => 2 ^ K - p.1) (fun p => [(0, .slice (some ⟨b, 0, none⟩) k0 c0), (6, .int .u64 ((2 ^ K : Nat) : Int)), (7, .int .u64 ((K : Nat) : Int)), (9, .slice (some ⟨b1, 0, none⟩) (2 ^ K) (2 * 2 ^ K)), (10, .slice (some ⟨b1, 2 ^ K * 2, none⟩) (2 ^ K) (2 ^ K)), (47, .int .i64 (p.1 : Int)), (46, .int .i64 ((2 ^ K : Nat) : Int))]) (fun p => [(b1, .cells (flat fpC (lsT (w2F x u K) (cm x u K p.1) 0 (2 ^ K) (2 * 2 ^ K))) 81 (0, 0)), (b, .cells (flat fpC r) 81 (0, 0))]) ⟨0, Nat.zero_le _⟩ (fun ac wc ha hw => ⟨ha.subS ⟨rfl, rfl, rfl, rfl, rfl, rfl, rfl, trivial⟩, by have h := hw.pick [0, 1] (by simp); dsimp only; rw [← cm_zero]; exact h⟩) ?_
  rintro ⟨i, hi⟩
  dsimp only
  refine HC.seq ?_
  refine HC.region ?_
  by_cases hik : i < 2 ^ K
  · refine HL.val ((Val.lss rfl rfl).as (congrArg Value.bool ((lssN i (2 ^ K)).trans (decide_eq_true hik)))) (by decide) ?_
    refine HL.nil ?_
    refine HQ.next ?_
    refine HC.seq ?_
    refine HC.yes rfl ?_
    refine HC.skip ?_
    refine HQ.next ?_
    refine HC.seq ?_
    refine HC.block ?_
    refine HC.seq ?_
    refine HC.region ?_
    refine HL.val (Val.move rfl) (by decide) ?_
    refine HL.val (Val.assign rfl) (by decide) ?_
    refine HL.nil ?_
    refine HQ.next ?_
    refine HC.draw0 6 (by kernel_rfl) (by kernel_rfl) ?_
    simp only [List.take, List.drop]
    refine HV.val (Val.move rfl) (by decide) ?_
    refine HV.val (Val.move rfl) (by decide) ?_
    refine HV.val (Val.ixSlice (s := 2) (i := i) ((0 + i) * 2) rfl rfl Tryd.underlying105 (by kernel_rfl) hik (by omega)) (by decide) ?_
    refine HV.val (Val.move rfl) (by decide) ?_
    refine HV.val (Val.move rfl) (by decide) ?_
    refine HV.val (Val.ixSlice (s := 2) (i := i) (2 ^ K * 2 + i * 2) rfl rfl Tryd.underlying105 (by kernel_rfl) hik rfl) (by decide) ?_
    refine HV.tail0 ?_
    refine HL.callD en111 rfl (fpMulAssignH (dstT (T := cm x u K i) 0 rfl hik (by omega) (.inl hb1)) (locT (T := cm x u K i) 0 rfl hik (by omega)) (cm_lt _ _ _ _ _) (locO 0 rfl hik) (tr_lt _ _ _)) (by decide) ?_
    simp only [List.set_cons_zero]
    refine HL.nil ?_
    refine HQ.blockNormal ?_
    refine HQ.next ?_
    refine HC.region ?_
    refine HL.val ((Val.addI rfl rfl).as (congrArg (Value.int .i64) (wrap1 i (by omega)))) (by decide) ?_
    refine HL.val (Val.move rfl) (by decide) ?_
    refine HL.nil ?_
    exact ⟨fun ac wc ha hw => ⟨⟨i + 1, hik⟩, by dsimp only; omega, ha.subS ⟨rfl, rfl, rfl, rfl, rfl, rfl, rfl, trivial⟩, by have h := hw.pick [0, 1] (by simp); simp only [List.filterMap_cons, List.filterMap_nil, List.getElem?_cons_zero, List.getElem?_cons_succ] at h; rw [lsT_congr (fun e _ => cm_step x u K i e)] at h; exact h⟩⟩
  · refine HL.val ((Val.lss rfl rfl).as (congrArg Value.bool ((lssN i (2 ^ K)).trans (decide_eq_false hik)))) (by decide) ?_
    refine HL.nil ?_
    refine HQ.next ?_
    refine HC.seq ?_
    refine HC.no rfl ?_
    refine HC.exit ?_
    refine HQ.thenExit ?_
    refine HQ.thenExit ?_
    refine HQ.blockExit ?_
    refine HQ.next ?_
    refine HC.seq ?_
    refine HC.region ?_
    refine HL.val (Val.move rfl) (by decide) ?_
    refine HL.val (Val.move rfl) (by decide) ?_
    refine HL.val (Val.move rfl) (by decide) ?_
    obtain rfl : i = 2 ^ K := by omega
    refine HL.callD en99 rfl (fun w1 hw => lift_one hw (i := 0) rfl (.inl hb1) (ntt3 (c := 2 ^ K) hk (Nat.le_refl _) (ht.sn hw.sn (beq_false_of_ne hbT)) (hd.sn hw.sn (beq_false_of_ne hbD)) (hw.at (i := 0) rfl) (Nat.ne_of_lt (Nat.lt_of_lt_of_le ht.lt hb1)) (Nat.ne_of_lt (Nat.lt_of_lt_of_le (db_lt hd) hb1)))) (by decide) ?_
    simp only [List.set_cons_zero]
    refine HL.nil ?_
    refine HQ.next ?_
    refine HC.seq ?_
    refine HC.region ?_
    refine HL.new (New.alloc al81) (by decide) ?_
    intro b2 hb2
    refine HL.nil ?_
    refine HQ.next ?_
    refine HC.seq ?_
    refine HC.region ?_
    refine HL.val (Val.move rfl) (by decide) ?_
    refine HL.callD en92 rfl (fun w1 hw => lift_one hw (i := 0) rfl (.inl hb2) (invTwo_any (n := K) (ht.sn hw.sn (beq_false_of_ne hbT)) (hh.sn hw.sn (beq_false_of_ne hbH)) (hw.at (i := 0) rfl) (Nat.ne_of_lt (Nat.lt_of_lt_of_le ht.lt hb2)) (Nat.ne_of_lt (Nat.lt_of_lt_of_le hh.lt hb2)) (by omega))) (by decide) ?_
    simp only [List.set_cons_zero]
    refine HL.nil ?_
    refine HQ.next ?_
    refine HC.seq ?_
    refine HC.region ?_
    refine HL.val (Val.move rfl) (by decide) ?_
    refine HL.val (Val.move rfl) (by decide) ?_
    refine HL.copyRows (s := 2) 2 (flat fpC (cpL x u K k0)) rfl rfl Tryd.underlying102 (by kernel_rfl) rfl (by rw [flat_size szE, hr]) (by rw [flat_size szE, cpL_len]) (by omega) (fun w hw j v hj => by rw [cell_of_row w _ _ _ _ _ (hw.at (i := 1) rfl)]; exact flat_part (by decide) szE (by rw [cpL_len, mapR_len]; omega) (fun e he => by rw [cpL_len] at he; rw [mapR_get _ (show 2 ^ K + e < 2 * 2 ^ K by omega), w4_hi x u (by omega)]; exact (cpL_at x u K he).symm) j v hj) (memF _) (ownB b) (by decide) ?_
    simp only [List.set_cons_zero, List.set_cons_succ]
    refine HL.nil ?_
    refine HQ.next ?_
    refine HC.region ?_
    refine HL.val (Val.move rfl) (by decide) ?_
    refine HL.callD en96 rfl (fun w1 hw => lift_one hw (i := 2) rfl (ownB b) (scalK (cpL_len x u K k0) (hw.at (i := 2) rfl) (cpL_lt x u K k0) (by omega) (RawAt.row (hw.at (i := 0) rfl)) (Nat.mod_lt _ pf_pos) (nd_ne hw (i := 0) (j := 2) rfl rfl (by decide)))) (by decide) ?_
    simp only [List.set_cons_zero, List.set_cons_succ]
    refine HL.nil ?_
    exact HQ.end0 rfl (fun w hw => ⟨rfl, by have h := hw.pick [2] (by simp); simp only [List.filterMap_cons, List.filterMap_nil, List.getElem?_cons_zero, List.getElem?_cons_succ] at h; subst hk0; rw [cp_prod (by omega) h1 h2 (by omega)] at h; exact h⟩)
end Go.Proofs.YtgdfdkpkhjbibaaDoor
