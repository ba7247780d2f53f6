
/-
  mulA24Generic: an element times 121666.
-/
import Derived.Test.YteehdjkmjncehaaDoorMid
import Derived.Test.YteehdjkmjncehaaDoorWrap
import Derived.Test.YteehdjkmjncehaaDoorFree
namespace Go.Proofs.YteehdjkmjncehaaDoor
open Go.RowKit
section
variable {P : Program} {ops : Array Oper} {Q : Exit → Act → World → Prop} {md : Region.Mode} {D : Nat → Bool} {w0 : World}
/-- A call that reads memory. -/
theorem wpVL_callS {K : Act → Prop} {o : Oper} {rest : List Oper} {a : Act} {v : Value} {f : FuncId} {args : Array Value} (hw : Region.wanted o (yielded ops a.tmps) = true)
    (hx : ∀ w, (execOp a.eval o).run P w = .ok (.enter f args) w) (hf : ∀ w, SinceD D w0 w → Calls P f args w fun e w' => e = .returned v ∧ Below w.heap.size w w') (h : wpVL P ops D w0 K rest (a.put o.dst v)) : wpVL P ops D w0 K (o :: rest) a :=
  ⟨v, .inl ⟨hw, fun w hS => by rw [hx w]; exact hf w hS⟩, h⟩
/-- One cell stored. -/
theorem wpPL_cell {o : Oper} {rest : List Oper} {a : Act} {C : Nat → Option Obj} (hw : Region.wanted o (yielded ops a.tmps) = true) (hdst : o.dst = none)
    (b q : Nat) (v : Value) {t : TypeId} {old : Array Value} (hC : C b = some (.cells old t (0, 0))) (hD : b < w0.heap.size → D b = true)
    (hx : ∀ w, w.heap[b]? = some (.cells old t (0, 0)) → (execOp a.eval o).run P w = .ok .skip (w.setCell ⟨b, q, none⟩ v))
    (h : wpPL P ops Q D w0 rest a (updC C b (.cells (old.setIfInBounds q v) t (0, 0)))) : wpPL P ops Q D w0 (o :: rest) a C :=
  ⟨b, _, _, hC, hD, ⟨hw, hdst, fun w hb => ⟨w.setCell ⟨b, q, none⟩ v, hx w hb, only_setCell w b q v, set_step hb⟩⟩, h⟩
theorem SinceD.el {w : World} (h : SinceD D w0 w) {b o v : Nat} (he : ElAt w0 b o v) (hd : D b = false) : ElAt w b o v := by
  obtain ⟨T, ls, i, h1, h2⟩ := he
  refine ⟨T, ls, i, ?_, h2⟩
  have := h1.lt
  unfold Blk at *
  rw [h.block b this hd]; exact h1
end
theorem ElAt.on2 {w w' : World} {b o v B : Nat} (h : ElAt w b o v) (hb : Below B w w') (hB : b < B) : ElAt w' b o v := by
  obtain ⟨T, ls, i, h1, h2⟩ := h; exact ⟨T, ls, i, h1.below hb hB, h2⟩
theorem ElAt.limb {w : World} {b o v k : Nat} (h : ElAt w b o v) (hk : k < 4) : LimbAt w b (o + 8 * k) (limb v k) := by
  rcases (show k = 0 ∨ k = 1 ∨ k = 2 ∨ k = 3 by omega) with rfl | rfl | rfl | rfl
  · exact h.l0
  · exact h.l1
  · exact h.l2
  · exact h.l3
/-- The first k numbers of an element laid. -/
def putK (zs : List Nat) (iz r : Nat) : Nat → List Nat
  | 0 => zs
  | k + 1 => (putK zs iz r k).set (4 * iz + k) (limb r k)
theorem putK_length (zs : List Nat) (iz r : Nat) : ∀ k, (putK zs iz r k).length = zs.length
  | 0 => rfl
  | k + 1 => by rw [putK, List.length_set, putK_length zs iz r k]
set_option maxRecDepth 100000 in
theorem slice8 (b o k : Nat) (hk : k < 4) (w : World) : (Instr.sliceAt 41 (.pointer (some ⟨b, o, none⟩)) (some (.int .i64 (IntKind.i64.wrap ((k : Int) * 8)))) (some (.int .i64 (IntKind.i64.wrap (IntKind.i64.wrap ((k : Int) + 1) * 8)))) none).run Tryd.prog w = .ok (.slice (some ⟨b, o + 8 * k, none⟩) 8 (32 - 8 * k)) w := by
  rcases (show k = 0 ∨ k = 1 ∨ k = 2 ∨ k = 3 by omega) with rfl | rfl | rfl | rfl <;> rfl
set_option maxRecDepth 100000 in
set_option maxHeartbeats 1600000 in
theorem mulA24Generic_any {bz oz Tz iz bx ox x : Nat} {zs : List Nat} {w : World} (hz0 : Blk w bz Tz zs) (hlz : 4 * iz + 3 < zs.length) (hoz : oz = 32 * iz) (hx0 : ElAt w bx ox x) (hx : x < 2 ^ 256) :
    Calls Tryd.prog 85 #[.pointer (some ⟨bz, oz, none⟩), .pointer (some ⟨bx, ox, none⟩)] w (ElR bz Tz iz zs (fun r => r % p25 = (x * 121666) % p25) w) := by
  have Hz := Lib.hid hoz
  have hbl := hz0.lt
  have hxl : bx < w.heap.size := by obtain ⟨_, _, _, h, _⟩ := hx0; exact h.lt
  have Hw := Lib.hid hz0
  have hu := Tryd.underlying87
  have HXL := Lib.hid hxl
  clear hoz hz0
  go_enter Tryd.func85, Tryd.ntmps85
  go_wp2_with fail
  obtain ⟨w0, hw0⟩ : ∃ w0, w0 = w.alloc (Obj.cells (dgA 4 (fun _ => 0)) 87) := ⟨_, rfl⟩
  have hA : DgAt w0 w.heap.size 4 87 (fun _ => 0) := by subst hw0; exact heap_alloc_new _ _
  have hL : Below w.heap.size w w0 := by subst hw0; exact (Below.refl _ _).alloc (Nat.le_refl _) _
  change Code.wp _ _ _ _ (w.alloc (Obj.cells (dgA 4 (fun _ => 0)) 87))
  rw [← hw0]
  clear hw0
  obtain ⟨n, hn⟩ : ∃ n, w.heap.size = n := ⟨_, rfl⟩
  have HN := Lib.hid hn
  rw [hn] at hA hL hbl hxl HXL ⊢
  clear hn
  have HX0 := Lib.hid hx0
  clear hx0
  go_loopw [21] (fun i wr => ∃ k : Nat, k ≤ 4 ∧ i = .int .i64 k ∧ DgAt wr n 4 87 (fun j => if j < k then limb x j else 0) ∧ Below n w wr) (fun i _ => 4 - (intOf i).toNat)
  case atStart => exact ⟨0, by omega, rfl, hA.congr (by simp), hL⟩
  case round =>
    clear hA hL
    obtain ⟨k, hk, rfl, hA, hL⟩ := hrel
    rcases (show k < 4 ∨ k = 4 by omega) with hlt | rfl
    · have HA := Lib.hid hA
      have HL := Lib.hid hL
      clear hA hL
      go_wp2_with fail
      refine wp_region_puts 12 (fun b => b == n) (fun b => if b = n then some (.cells (dgA 4 (fun j => if j < k then limb x j else 0)) 87 (0, 0)) else none) (by kernel_rfl) (by kernel_rfl) (fun b o h => by
        split at h
        · next e => subst e; cases h; exact HA.out
        · cases h) ?_
      simp only [List.take, List.drop]
      refine wpVL_value (by rfl) (fun w hw => by go_simp; try with_reducible rfl) ?_
      simp only [Act.put, List.setIfInBounds_toArray, List.set_cons_zero, List.set_cons_succ]
      refine wpVL_value (by rfl) (fun w hw => by go_simp; try with_reducible rfl) ?_
      simp only [Act.put, List.setIfInBounds_toArray, List.set_cons_zero, List.set_cons_succ]
      refine wpVL_value (by rfl) (fun w hw => by go_simp; try with_reducible rfl) ?_
      simp only [Act.put, List.setIfInBounds_toArray, List.set_cons_zero, List.set_cons_succ]
      refine wpVL_value (by rfl) (fun w hw => by go_simp; try with_reducible rfl) ?_
      simp only [Act.put, List.setIfInBounds_toArray, List.set_cons_zero, List.set_cons_succ]
      refine wpVL_value (by rfl) (fun w hw => by go_simp; try with_reducible rfl) ?_
      simp only [Act.put, List.setIfInBounds_toArray, List.set_cons_zero, List.set_cons_succ]
      refine wpVL_value (by rfl) (fun w hw => by go_simp; try with_reducible rfl) ?_
      simp only [Act.put, List.setIfInBounds_toArray, List.set_cons_zero, List.set_cons_succ]
      refine wpVL_value (by rfl) (fun w hw => by go_simp; try with_reducible rfl) ?_
      simp only [Act.put, List.setIfInBounds_toArray, List.set_cons_zero, List.set_cons_succ]
      refine wpVL_value (by rfl) (fun w hw => by go_simp; try with_reducible rfl) ?_
      simp only [Act.put, List.setIfInBounds_toArray, List.set_cons_zero, List.set_cons_succ]
      refine wpVL_value (by rfl) (fun w hw => by go_simp; try with_reducible rfl) ?_
      simp only [Act.put, List.setIfInBounds_toArray, List.set_cons_zero, List.set_cons_succ]
      refine wpVL_value (v := .slice (some ⟨bx, ox + 8 * k, none⟩) 8 (32 - 8 * k)) (by rfl) (fun w hw => by go_simp; rw [slice8 bx ox k hlt w]; rfl) ?_
      simp only [Act.put, List.setIfInBounds_toArray, List.set_cons_zero, List.set_cons_succ]
      refine wpVL_callS (args := #[.agg #[], .slice (some ⟨bx, ox + 8 * k, none⟩) 8 (32 - 8 * k)]) (by rfl) (fun w => by go_simp) (fun w hw => u64_any (ElAt.limb (hw.el (HX0.out.on2 HL.out HXL.out) (by simp; omega)) hlt) (limb_lt x k)) ?_
      simp only [Act.put, List.setIfInBounds_toArray, List.set_cons_zero, List.set_cons_succ]
      refine wpVL_value (v := .pointer (some ⟨n, k, none⟩)) (by rfl) (fun w hw => by go_simp) ?_
      simp only [Act.put, List.setIfInBounds_toArray, List.set_cons_zero, List.set_cons_succ]
      refine wpVL_nil ?_
      refine wpPL_cell (by rfl) rfl n k (.int .u64 (limb x k : Nat)) (t := 87) (old := dgA 4 (fun j => if j < k then limb x j else 0)) (by simp) (fun _ => by simp) (fun w hb => by
        have hc := DgAt.cell (show DgAt w n 4 87 (fun j => if j < k then limb x j else 0) from hb) hlt
        have hf := DgAt.frozen (show DgAt w n 4 87 (fun j => if j < k then limb x j else 0) from hb) k
        go_simp) ?_
      intro w1 hw1
      have hA1 : DgAt w1 n 4 87 (fun j => if j < k + 1 then limb x j else 0) := by
        have h := hw1.held n _ (show updC _ n _ n = _ by unfold updC; rw [if_pos rfl])
        rw [dgA_set] at h
        exact DgAt.congr h (fun j _ => upd_upTo (limb x) k j)
      have hL1 : Below n w w1 := HL.out.trans (hw1.since.below (Nat.le_of_lt HA.out.lt) (fun j hj => by simp; omega))
      have HA1 := Lib.hid hA1
      have HL1 := Lib.hid hL1
      clear hA1 hL1 hw1 HA HL
      simp only [Exit.inBlock, Exit.then]
      go_wp2_with fail
      exact ⟨⟨k + 1, by omega, by simp, HA1.out, HL1.out⟩, by simp [intOf]; omega⟩
    · have hA2 : DgAt wr n 4 87 (limb x) := hA.congr (fun j hj => by simp only [hj, if_true])
      have q0 := hA2.cell (k := 0) (by decide)
      have q1 := hA2.cell (k := 1) (by decide)
      have q2 := hA2.cell (k := 2) (by decide)
      have q3 := hA2.cell (k := 3) (by decide)
      have p0 := hA2.frozen 0
      have p1 := hA2.frozen 1
      have p2 := hA2.frozen 2
      have p3 := hA2.frozen 3
      have HA := Lib.hid hA2
      have HL := Lib.hid hL
      clear hA hA2 hL
      go_wp2_with fail
      refine (mul64_any (limb x 0) 121666 rfl rfl (limb_lt x 0) (by decide)).mono ?_
      rintro e w' ⟨h0, l0, M0, rfl, rfl⟩
      go_wp2_with fail
      refine (mul64_any (limb x 1) 121666 rfl rfl (limb_lt x 1) (by decide)).mono ?_
      rintro e w' ⟨h1, l1, M1, rfl, rfl⟩
      go_wp2_with fail
      refine (mul64_any (limb x 2) 121666 rfl rfl (limb_lt x 2) (by decide)).mono ?_
      rintro e w' ⟨h2, l2, M2, rfl, rfl⟩
      go_wp2_with fail
      refine (mul64_any (limb x 3) 121666 rfl rfl (limb_lt x 3) (by decide)).mono ?_
      rintro e w' ⟨h3, l3, M3, rfl, rfl⟩
      go_wp2_with fail
      refine upon_add64 h0 l1 0 rfl rfl rfl M0.lt M1.lo (by decide) ?_
      intro b1 c0 A1
      go_wp2_with fail
      refine upon_add64 h1 l2 c0 rfl rfl rfl M1.lt M2.lo A1.c ?_
      intro b2 c1 A2
      go_wp2_with fail
      refine upon_add64 h2 l3 c1 rfl rfl rfl M2.lt M3.lo A2.c ?_
      intro b3 c2 A3
      go_wp2_with fail
      refine upon_add64 h3 0 c2 rfl rfl rfl M3.lt (by decide) A3.c ?_
      intro b4 u A4
      go_wp2_with fail
      refine (mul64_any b4 38 rfl rfl A4.lt (by decide)).mono ?_
      rintro e w' ⟨wh, l4, M4, rfl, rfl⟩
      go_wp2_with fail
      refine upon_add64 l0 l4 0 rfl rfl rfl M0.lo M4.lo (by decide) ?_
      intro n0 f0 K0
      go_wp2_with fail
      refine upon_add64 b1 0 f0 rfl rfl rfl A1.lt (by decide) K0.c ?_
      intro n1 f1 K1
      go_wp2_with fail
      refine upon_add64 b2 0 f1 rfl rfl rfl A2.lt (by decide) K1.c ?_
      intro n2 f2 K2
      go_wp2_with fail
      refine upon_add64 b3 0 f2 rfl rfl rfl A3.lt (by decide) K2.c ?_
      intro n3 f3 K3
      go_wp2_with fail
      refine upon_add64 n0 (38 * f3) 0 rfl (neg38 f3 K3.c) rfl K0.lt (lt38 K3.c) (by decide) ?_
      intro zz u2 K4
      go_wp2_with fail
      obtain ⟨r, hr, hrs, r0, r1, r2, r3⟩ := limb_of zz n1 n2 n3 K4.lt K1.lt K2.lt K3.lt
      have hR := a24_law (limb_lt x 0) (limb_lt x 1) (limb_lt x 2) (limb_lt x 3) M0 M1 M2 M3 A1 A2 A3 A4 M4 K0 K1 K2 K3 K4
      rw [V4_limb x hx] at hR
      have hrE : r = V4 zz n1 n2 n3 := hrs
      rw [← hrE] at hR
      have hDF : DgAt ((((wr.setCell ⟨n, 1, none⟩ (.int .u64 (n1 : Nat))).setCell ⟨n, 2, none⟩ (.int .u64 (n2 : Nat))).setCell ⟨n, 3, none⟩ (.int .u64 (n3 : Nat))).setCell ⟨n, 0, none⟩ (.int .u64 (zz : Nat))) n 4 87 (limb r) := by
        refine ((((HA.out.set 1 n1).set 2 n2).set 3 n3).set 0 zz).congr (fun j hj => ?_)
        rcases (show j = 0 ∨ j = 1 ∨ j = 2 ∨ j = 3 by omega) with rfl | rfl | rfl | rfl
        · rw [r0]; simp [upd]
        · rw [r1]; simp [upd]
        · rw [r2]; simp [upd]
        · rw [r3]; simp [upd]
      have hLF : Below n w ((((wr.setCell ⟨n, 1, none⟩ (.int .u64 (n1 : Nat))).setCell ⟨n, 2, none⟩ (.int .u64 (n2 : Nat))).setCell ⟨n, 3, none⟩ (.int .u64 (n3 : Nat))).setCell ⟨n, 0, none⟩ (.int .u64 (zz : Nat))) :=
        (((HL.out.setCell (by dsimp only; omega) _).setCell (by dsimp only; omega) _).setCell (by dsimp only; omega) _).setCell (by dsimp only; omega) _
      have hZ0 : Blk ((((wr.setCell ⟨n, 1, none⟩ (.int .u64 (n1 : Nat))).setCell ⟨n, 2, none⟩ (.int .u64 (n2 : Nat))).setCell ⟨n, 3, none⟩ (.int .u64 (n3 : Nat))).setCell ⟨n, 0, none⟩ (.int .u64 (zz : Nat))) bz Tz zs := Hw.out.below hLF hbl
      generalize (((wr.setCell ⟨n, 1, none⟩ (.int .u64 (n1 : Nat))).setCell ⟨n, 2, none⟩ (.int .u64 (n2 : Nat))).setCell ⟨n, 3, none⟩ (.int .u64 (n3 : Nat))).setCell ⟨n, 0, none⟩ (.int .u64 (zz : Nat)) = w5 at *
      have hO5 : Only bz w w5 := Only.of_below (by rw [HN.out]; exact hLF)
      have HRR := Lib.hid hR
      clear hR hrE hrs r0 r1 r2 r3 HA HL hLF q0 q1 q2 q3 p0 p1 p2 p3 M0 M1 M2 M3 A1 A2 A3 A4 M4 K0 K1 K2 K3 K4
      go_loopw [128] (fun i ws => ∃ k : Nat, k ≤ 4 ∧ i = .int .i64 k ∧ DgAt ws n 4 87 (limb r) ∧ Blk ws bz Tz (putK zs iz r k) ∧ Only bz w ws) (fun i _ => 4 - (intOf i).toNat)
      case atStart => exact ⟨0, by omega, rfl, hDF, hZ0, hO5⟩
      case round =>
        clear hDF hZ0 hO5
        obtain ⟨k, hk, rfl, hD, hZ, hO⟩ := hrel
        rcases (show k < 4 ∨ k = 4 by omega) with hlt | rfl
        · have HD := Lib.hid hD
          have HZ := Lib.hid hZ
          have HO := Lib.hid hO
          clear hD hZ hO
          go_wp2_with fail
          refine wp_region_steady_tail 12 (Since wr) (by kernel_rfl) (by kernel_rfl) (Since.drew _) ?_
          simp only [List.take, List.drop]
          refine wpSL_value (by rfl) (fun w hw => by go_simp; try with_reducible rfl) ?_
          simp only [Act.put, List.setIfInBounds_toArray, List.set_cons_zero, List.set_cons_succ]
          refine wpSL_value (by rfl) (fun w hw => by go_simp; try with_reducible rfl) ?_
          simp only [Act.put, List.setIfInBounds_toArray, List.set_cons_zero, List.set_cons_succ]
          refine wpSL_value (by rfl) (fun w hw => by go_simp; try with_reducible rfl) ?_
          simp only [Act.put, List.setIfInBounds_toArray, List.set_cons_zero, List.set_cons_succ]
          refine wpSL_value (by rfl) (fun w hw => by go_simp; try with_reducible rfl) ?_
          simp only [Act.put, List.setIfInBounds_toArray, List.set_cons_zero, List.set_cons_succ]
          refine wpSL_value (by rfl) (fun w hw => by go_simp; try with_reducible rfl) ?_
          simp only [Act.put, List.setIfInBounds_toArray, List.set_cons_zero, List.set_cons_succ]
          refine wpSL_value (by rfl) (fun w hw => by go_simp; try with_reducible rfl) ?_
          simp only [Act.put, List.setIfInBounds_toArray, List.set_cons_zero, List.set_cons_succ]
          refine wpSL_value (by rfl) (fun w hw => by go_simp; try with_reducible rfl) ?_
          simp only [Act.put, List.setIfInBounds_toArray, List.set_cons_zero, List.set_cons_succ]
          refine wpSL_value (by rfl) (fun w hw => by go_simp; try with_reducible rfl) ?_
          simp only [Act.put, List.setIfInBounds_toArray, List.set_cons_zero, List.set_cons_succ]
          refine wpSL_value (v := .slice (some ⟨bz, oz + 8 * k, none⟩) 8 (32 - 8 * k)) (by rfl) (fun w hw => by go_simp; rw [slice8 bz oz k hlt w]; rfl) ?_
          simp only [Act.put, List.setIfInBounds_toArray, List.set_cons_zero, List.set_cons_succ]
          refine wpSL_value (by rfl) (fun w hw => by go_simp; try with_reducible rfl) ?_
          simp only [Act.put, List.setIfInBounds_toArray, List.set_cons_zero, List.set_cons_succ]
          refine wpSL_value (v := .pointer (some ⟨n, k, none⟩)) (by rfl) (fun w hw => by go_simp) ?_
          simp only [Act.put, List.setIfInBounds_toArray, List.set_cons_zero, List.set_cons_succ]
          refine wpSL_value (v := .int .u64 (limb r k : Nat)) (by rfl) (fun w hw => by have hc := Since.cell hw (HD.out.cell hlt); go_simp) ?_
          simp only [Act.put, List.setIfInBounds_toArray, List.set_cons_zero, List.set_cons_succ]
          refine wpSL_nil ?_
          intro w6 hw6
          have hZ6 := HZ.out.on hw6
          have hD6 := HD.out.below hw6 HD.out.lt
          have hO6 := HO.out.trans (Only.of_below hw6)
          have HD6 := Lib.hid hD6
          have HO6 := Lib.hid hO6
          have hlk : 4 * iz + k < (putK zs iz r k).length := by rw [putK_length]; omega
          have HP := Lib.hid (put64_at (o := oz + 8 * k) (c := 32 - 8 * k) (k := 4 * iz + k) (v := limb r k) hZ6 hlk (limb_lt r k) (by have := Hz.out; omega))
          clear hZ6 hD6 hO6 hw6 hlk HD HZ HO
          go_wp2_with (go_at_call 79; refine HP.out.mono ?_; rintro e w7 ⟨rfl, hz7, hb7⟩)
          have hD7 : DgAt w7 n 4 87 (limb r) := by unfold DgAt; rw [hb7.block n HD6.out.lt (by omega)]; exact HD6.out
          have HD7 := Lib.hid hD7
          have HZ7 := Lib.hid hz7
          have HO7 := Lib.hid (HO6.out.trans hb7)
          clear hD7 hz7 hb7
          (try simp only [Exit.inBlock, Exit.then])
          go_wp2_with fail
          exact ⟨⟨k + 1, by omega, by simp, HD7.out, HZ7.out, HO7.out⟩, by simp [intOf]; omega⟩
        · have HZ := Lib.hid hZ
          have HO := Lib.hid hO
          clear hD hZ hO
          go_wp2_with fail
          go_end0
          exact ⟨r, hr, HRR.out, rfl, HZ.out, HO.out⟩
end Go.Proofs.YteehdjkmjncehaaDoor
