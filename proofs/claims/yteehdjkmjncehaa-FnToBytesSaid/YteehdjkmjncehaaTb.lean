/-
  fp25519.ToBytes, impl.ToBytes (written by gentb.py).
-/
import Derived.Test.YteehdjkmjncehaaHZ
import Derived.Test.YteehdjkmjncehaaSt
namespace Go.Proofs.Yteehdjkmjncehaa
open Go.RowKit
theorem byL_oneA (n v : Nat) : ∀ x ∈ byA n v, x.oneCell' = true := fun x hx => byL_one n v x (by simpa using hx)

theorem bl_str (s : ByteArray) : Try.prog.built 88 [(0, .string s)] = some #[.string s] := by kernel_rfl
set_option maxRecDepth 100000 in
theorem errNew (s : ByteArray) (w : World) : Calls Try.prog 70 #[.string s] w fun e w' => ∃ b, e = .returned (.iface 86 (.pointer (some ⟨b, 0, none⟩))) ∧ Below w.heap.size w w' := by
  refine calls_H (args := [.string s]) noD [] Try.func70 rfl (m := 7) rfl rfl (hold_nil _ _) ?_
  refine HC.seq ?_
  refine HC.region ?_
  refine HL.val (Val.assign rfl) (by decide) ?_
  refine HL.nil ?_
  refine HQ.next ?_
  refine HC.seq ?_
  refine HC.region ?_
  refine HL.val (Val.move rfl) (by decide) ?_
  refine HL.val (Val.build rfl (bl_str s)) (by decide) ?_
  refine HL.new (New.box rfl) (by decide) ?_
  intro b1 hb1
  refine HL.val (Val.makeIface rfl (by kernel_rfl)) (by decide) ?_
  refine HL.val (Val.assign rfl) (by decide) ?_
  refine HL.nil ?_
  refine HQ.next ?_
  refine HC.ret ?_
  exact HQ.ret1 rfl rfl (fun w hw => ⟨b1, rfl, hw.sn.pure⟩)
theorem errNewH (s : ByteArray) {D : Nat → Bool} {u0 : World} {η : List (Nat × Obj)} : ∀ w, Hold D u0 η w → Calls Try.prog 70 #[.string s] w fun e w' => ∃ b : Nat, True ∧ e = .returned (.iface 86 (.pointer (some ⟨b, 0, none⟩))) ∧ Hold D u0 η w' := fun w hw =>
  (errNew s w).mono fun _ _ ⟨b, he, hb⟩ => ⟨b, trivial, he, hw.on hb⟩

theorem neqL {l : Nat} (h : l ≠ 32) : ((l : Int) != 32) = true := by rw [bne_iff_ne]; omega
set_option maxRecDepth 100000 in
theorem fpToBytes_bad {ad : Option Addr} {l c bp : Nat} (h : l ≠ 32) (w : World) : Calls Try.prog 48 #[.slice ad l c, .pointer (some ⟨bp, 0, none⟩)] w fun e w' => ∃ b, e = .returned (.iface 86 (.pointer (some ⟨b, 0, none⟩))) ∧ Below w.heap.size w w' := by
  refine calls_H (args := [.slice ad l c, .pointer (some ⟨bp, 0, none⟩)]) noD [] Try.func48 rfl (m := 16) rfl rfl (hold_nil _ _) ?_
  refine HC.seq ?_
  refine HC.region ?_
  refine HL.val (Val.assign rfl) (by decide) ?_
  refine HL.nil ?_
  refine HQ.next ?_
  refine HC.seq ?_
  refine HC.seq ?_
  refine HC.region ?_
  refine HL.val (Val.move rfl) (by decide) ?_
  refine HL.val (Val.lenS rfl rfl Try.underlying31) (by decide) ?_
  refine HL.val ((Val.neqI rfl rfl).as (congrArg Value.bool (neqL h))) (by decide) ?_
  refine HL.nil ?_
  refine HQ.next ?_
  refine HC.yes rfl ?_
  refine HC.seq ?_
  refine HC.region ?_
  refine HL.call (f := 70) en70 rfl (errNewH _) (by decide) ?_
  rintro eb _
  refine HL.val (Val.assign rfl) (by decide) ?_
  refine HL.nil ?_
  refine HQ.next ?_
  refine HC.ret ?_
  refine HQ.thenRet ?_
  exact HQ.ret1 rfl rfl (fun w hw => ⟨eb, rfl, hw.sn.pure⟩)
theorem fpToBytes_badH {ad : Option Addr} {l c bp : Nat} (h : l ≠ 32) {D : Nat → Bool} {u0 : World} {η : List (Nat × Obj)} : ∀ w, Hold D u0 η w → Calls Try.prog 48 #[.slice ad l c, .pointer (some ⟨bp, 0, none⟩)] w fun e w' => ∃ b : Nat, True ∧ e = .returned (.iface 86 (.pointer (some ⟨b, 0, none⟩))) ∧ Hold D u0 η w' := fun w hw =>
  (fpToBytes_bad h w).mono fun _ _ ⟨b, he, hb⟩ => ⟨b, trivial, he, hw.on hb⟩

theorem hold_two2 {w : World} {b c : Nat} {ob oc : Obj} {D : Nat → Bool} (h : w.heap[b]? = some ob) (h2 : w.heap[c]? = some oc) (hn : b ≠ c) : Hold D w [(b, ob), (c, oc)] w := ⟨Sn.refl _ _, (fun p hp => by
  rcases List.mem_cons.1 hp with rfl | hp
  · exact h
  · obtain rfl : p = (c, oc) := by simpa using hp
    exact h2), by simp [hn]⟩
theorem nd_ne4 {D : Nat → Bool} {w0 w : World} {η : List (Nat × Obj)} (hw : Hold D w0 η w) {i j b c : Nat} {ob oc : Obj} (hi : η[i]? = some (b, ob)) (hj : η[j]? = some (c, oc)) (hn : i ≠ j) : b ≠ c := fun e => by
  have n := List.pairwise_iff_getElem.1 hw.nd
  obtain ⟨li, gi⟩ := List.getElem?_eq_some_iff.1 hi
  obtain ⟨lj, gj⟩ := List.getElem?_eq_some_iff.1 hj
  rcases Nat.lt_or_gt_of_ne hn with h | h
  · exact n i j (by simpa using li) (by simpa using lj) h (by simp [gi, gj, e])
  · exact n j i (by simpa using lj) (by simpa using li) h (by simp [gi, gj, e])
set_option maxRecDepth 100000 in
theorem fpToBytes_32 {bs bp Ts Tp x : Nat} {cs : Array Value} {w : World} (h0 : w.heap[bs]? = some (.cells cs Ts (0, 0))) (hcs : cs.size = 32) (h1 : w.heap[bp]? = some (.cells (byA 32 x) Tp (0, 0))) (hn : bs ≠ bp) (lx : x < 2 ^ 256) :
    Calls Try.prog 48 #[.slice (some ⟨bs, 0, none⟩) 32 32, .pointer (some ⟨bp, 0, none⟩)] w fun e w' => e = .returned .nilIface ∧ Hold (fun k => k == bs || k == bp) w [(bs, .cells (byA 32 (x % p25)) Ts (0, 0)), (bp, .cells (byA 32 (x % p25)) Tp (0, 0))] w' := by
  refine calls_H (args := [.slice (some ⟨bs, 0, none⟩) 32 32, .pointer (some ⟨bp, 0, none⟩)]) (fun k => k == bs || k == bp) [(bs, .cells cs Ts (0, 0)), (bp, .cells (byA 32 x) Tp (0, 0))] Try.func48 rfl (m := 16) rfl rfl (hold_two2 h0 h1 hn) ?_
  refine HC.seq ?_
  refine HC.region ?_
  refine HL.val (Val.assign rfl) (by decide) ?_
  refine HL.nil ?_
  refine HQ.next ?_
  refine HC.seq ?_
  refine HC.seq ?_
  refine HC.region ?_
  refine HL.val (Val.move rfl) (by decide) ?_
  refine HL.val (Val.lenS rfl rfl Try.underlying31) (by decide) ?_
  refine HL.val (Val.neqI rfl rfl) (by decide) ?_
  refine HL.nil ?_
  refine HQ.next ?_
  refine HC.no rfl ?_
  refine HC.skip ?_
  refine HQ.next ?_
  refine HC.seq ?_
  refine HC.region ?_
  refine HL.val (Val.move rfl) (by decide) ?_
  refine HL.call (f := 67) en67 rfl (modpH (dst1 1 rfl (.inr (by simp))) (elh1 1 rfl) lx) (by decide) ?_
  rintro _ ⟨_, rfl⟩
  simp only [List.set_cons_zero, List.set_cons_succ]
  refine HL.nil ?_
  refine HQ.next ?_
  refine HC.seq ?_
  refine HC.region ?_
  refine HL.val (Val.move rfl) (by decide) ?_
  refine HL.val (Val.move rfl) (by decide) ?_
  refine HL.val (Val.nilCheck rfl) (by decide) ?_
  refine HL.val (Val.sliceAll (s := 1) rfl Try.underlying59 (by kernel_rfl)) (by decide) ?_
  refine HL.copyAll 0 (byA 32 ((x % p25))) rfl rfl Try.underlying31 (by kernel_rfl) rfl hcs (byA_size _ _) (fun w hw j v hj => cell_part (q := 0) (ps := byA 32 ((x % p25))) (hw.at (i := 1) rfl) (fun j _ => by rw [Nat.zero_add]) j v hj) (byL_oneA _ _) (.inr (by simp)) (by decide) ?_
  simp only [List.set_cons_zero]
  refine HL.nil ?_
  refine HQ.next ?_
  refine HC.seq ?_
  refine HC.region ?_
  refine HL.val (Val.assign rfl) (by decide) ?_
  refine HL.nil ?_
  refine HQ.next ?_
  refine HC.ret ?_
  exact HQ.ret1 rfl rfl (fun w hw => ⟨rfl, hw⟩)
theorem fpToBytes_32H (i j : Nat) {D : Nat → Bool} {u0 : World} {η : List (Nat × Obj)} {bs bp Ts Tp x : Nat} {cs : Array Value} (hi : η[i]? = some (bs, .cells cs Ts (0, 0))) (hj : η[j]? = some (bp, .cells (byA 32 x) Tp (0, 0))) (hcs : cs.size = 32) (hn : i ≠ j) (hD : u0.heap.size ≤ bs ∨ D bs = true) (hE : u0.heap.size ≤ bp ∨ D bp = true) (lx : x < 2 ^ 256) :
    ∀ w, Hold D u0 η w → Calls Try.prog 48 #[.slice (some ⟨bs, 0, none⟩) 32 32, .pointer (some ⟨bp, 0, none⟩)] w fun e w' => e = .returned .nilIface ∧ Hold D u0 ((η.set i (bs, .cells (byA 32 (x % p25)) Ts (0, 0))).set j (bp, .cells (byA 32 (x % p25)) Tp (0, 0))) w' := fun w hw =>
  (fpToBytes_32 (hw.at hi) hcs (hw.at hj) (nd_ne4 hw hi hj hn) lx).mono fun e w' ⟨he, hh⟩ => ⟨he, hw.put2 hi hj hn hD hE hh.sn.os hh.sn.tape hh.sn.output hh.sn.size (fun k hk h1 h2 => hh.sn.block k hk (by simp [h1, h2])) (hh.at (i := 0) rfl) (hh.at (i := 1) rfl) rfl⟩

theorem zero5 : (Try.prog.info? 5).bind (·.zero) = some (.int .u8 0) := by kernel_rfl
theorem bytes5 : (Try.prog.info? 5).map (·.bytes) = some 1 := by kernel_rfl
theorem mk_size (z : Array Value) : (madeCells z (32 * 1)).size = 32 := by unfold madeCells; simp
set_option maxRecDepth 100000 in
theorem implToBytes_bad (n x : Nat) (hn : n ≤ 100) (h : n ≠ 32) : Pure Try.prog 24 #[.int .i64 (n : Int), byV 32 x] (.tuple #[.slice none 0 0, .bool false]) := by
  intro w
  refine calls_H (args := [.int .i64 (n : Int), byV 32 x]) noD [] Try.func24 rfl (m := 21) rfl rfl (hold_nil _ _) ?_
  refine HC.seq ?_
  refine HC.region ?_
  refine HL.new (New.box rfl) (by decide) ?_
  intro b1 hb1
  refine HL.val (Val.assign rfl) (by decide) ?_
  refine HL.val (Val.assign rfl) (by decide) ?_
  refine HL.nil ?_
  refine HQ.next ?_
  refine HC.seq ?_
  refine HC.seq ?_
  refine HC.region ?_
  refine HL.val (Val.move rfl) (by decide) ?_
  refine HL.val ((Val.lss rfl rfl).as (congrArg Value.bool (decide_eq_false (by omega)))) (by decide) ?_
  refine HL.val (Val.move rfl) (by decide) ?_
  refine HL.valg rfl (Val.move rfl) (by decide) ?_
  refine HL.valg rfl ((Val.gtr rfl rfl).as (congrArg Value.bool (decide_eq_false (by omega)))) (by decide) ?_
  refine HL.val (Val.pickF rfl rfl) (by decide) ?_
  refine HL.nil ?_
  refine HQ.next ?_
  refine HC.no rfl ?_
  refine HC.skip ?_
  refine HQ.next ?_
  refine HC.seq ?_
  refine HC.region ?_
  refine HL.val (Val.load_row rfl (fun w hw => hw.at (i := 0) rfl) Try.underlying22 rfl (sz22 _)) (by decide) ?_
  refine HL.new (New.alloc al59) (by decide) ?_
  intro b2 hb2
  refine HL.put 0 rfl (Put.row rfl rfl (sz59 _) (eqsz32 _ _) (one32 _)) (.inl hb2) ?_
  simp only [List.set_cons_zero]
  refine HL.nil ?_
  refine HQ.next ?_
  refine HC.seq ?_
  refine HC.region ?_
  refine HL.val (Val.move rfl) (by decide) ?_
  refine HL.new (New.make (s := 1) n rfl rfl Try.underlying31 (by kernel_rfl) zero5 bytes5 (by omega) (by omega) rfl) (by decide) ?_
  intro b3 hb3
  refine HL.val (Val.assign rfl) (by decide) ?_
  refine HL.nil ?_
  refine HQ.next ?_
  refine HC.seq ?_
  refine HC.seq ?_
  refine HC.region ?_
  refine HL.val (Val.move rfl) (by decide) ?_
  refine HL.call (f := 48) en48 rfl (fpToBytes_badH h) (by decide) ?_
  rintro eb _
  refine HL.val (Val.notNil rfl Try.underlying61) (by decide) ?_
  refine HL.nil ?_
  refine HQ.next ?_
  refine HC.yes rfl ?_
  refine HC.seq ?_
  refine HC.region ?_
  refine HL.val (Val.assign rfl) (by decide) ?_
  refine HL.val (Val.assign rfl) (by decide) ?_
  refine HL.nil ?_
  refine HQ.next ?_
  refine HC.ret ?_
  refine HQ.thenRet ?_
  exact HQ.ret2 rfl rfl rfl (pure_end rfl)

set_option maxRecDepth 100000 in
theorem implToBytes_32 (x : Nat) (hx : x < 2 ^ 256) (w : World) : Calls Try.prog 24 #[.int .i64 32, byV 32 x] w fun e w' => ∃ b : Nat, w.heap.size ≤ b ∧ e = .returned (.tuple #[.slice (some ⟨b, 0, none⟩) 32 32, .bool true]) ∧ Below w.heap.size w w' ∧ w'.heap[b]? = some (.cells (byA 32 (x % p25)) 5 (0, 0)) := by
  refine calls_H (args := [.int .i64 32, byV 32 x]) noD [] Try.func24 rfl (m := 21) rfl rfl (hold_nil _ _) ?_
  refine HC.seq ?_
  refine HC.region ?_
  refine HL.new (New.box rfl) (by decide) ?_
  intro b1 hb1
  refine HL.val (Val.assign rfl) (by decide) ?_
  refine HL.val (Val.assign rfl) (by decide) ?_
  refine HL.nil ?_
  refine HQ.next ?_
  refine HC.seq ?_
  refine HC.seq ?_
  refine HC.region ?_
  refine HL.val (Val.move rfl) (by decide) ?_
  refine HL.val (Val.lss rfl rfl) (by decide) ?_
  refine HL.val (Val.move rfl) (by decide) ?_
  refine HL.valg rfl (Val.move rfl) (by decide) ?_
  refine HL.valg rfl (Val.gtr rfl rfl) (by decide) ?_
  refine HL.val (Val.pickF rfl rfl) (by decide) ?_
  refine HL.nil ?_
  refine HQ.next ?_
  refine HC.no rfl ?_
  refine HC.skip ?_
  refine HQ.next ?_
  refine HC.seq ?_
  refine HC.region ?_
  refine HL.val (Val.load_row rfl (fun w hw => hw.at (i := 0) rfl) Try.underlying22 rfl (sz22 _)) (by decide) ?_
  refine HL.new (New.alloc al59) (by decide) ?_
  intro b2 hb2
  refine HL.put 0 rfl (Put.row rfl rfl (sz59 _) (eqsz32 _ _) (one32 _)) (.inl hb2) ?_
  simp only [List.set_cons_zero]
  refine HL.nil ?_
  refine HQ.next ?_
  refine HC.seq ?_
  refine HC.region ?_
  refine HL.val (Val.move rfl) (by decide) ?_
  refine HL.new (New.make (s := 1) 32 rfl rfl Try.underlying31 (by kernel_rfl) zero5 bytes5 (by omega) (by omega) rfl) (by decide) ?_
  intro b3 hb3
  refine HL.val (Val.assign rfl) (by decide) ?_
  refine HL.nil ?_
  refine HQ.next ?_
  refine HC.seq ?_
  refine HC.seq ?_
  refine HC.region ?_
  refine HL.val (Val.move rfl) (by decide) ?_
  refine HL.callD en48 rfl (fpToBytes_32H 0 1 rfl rfl (mk_size _) (by decide) (.inl hb3) (.inl hb2) hx) (by decide) ?_
  simp only [List.set_cons_zero, List.set_cons_succ]
  refine HL.val (Val.isNil rfl Try.underlying61) (by decide) ?_
  refine HL.nil ?_
  refine HQ.next ?_
  refine HC.no rfl ?_
  refine HC.skip ?_
  refine HQ.next ?_
  refine HC.seq ?_
  refine HC.region ?_
  refine HL.val (Val.move rfl) (by decide) ?_
  refine HL.val (Val.assign rfl) (by decide) ?_
  refine HL.val (Val.assign rfl) (by decide) ?_
  refine HL.nil ?_
  refine HQ.next ?_
  refine HC.ret ?_
  exact HQ.ret2 rfl rfl rfl (fun w hw => ⟨b3, hb3, rfl, hw.sn.pure, hw.at (i := 0) rfl⟩)
theorem implToBytes_32H {D : Nat → Bool} {u0 : World} {η : List (Nat × Obj)} {x : Nat} (hx : x < 2 ^ 256) : ∀ w, Hold D u0 η w → Calls Try.prog 24 #[.int .i64 32, byV 32 x] w fun e w' => ∃ b : Nat, u0.heap.size ≤ b ∧ e = .returned (.tuple #[.slice (some ⟨b, 0, none⟩) 32 32, .bool true]) ∧ Hold D u0 ((b, .cells (byA 32 (x % p25)) 5 (0, 0)) :: η) w' := fun w hw =>
  (implToBytes_32 x hx w).mono fun _ _ ⟨b, hb, he, hB, hc⟩ => ⟨b, (hw.extend hb hB hc).1, he, (hw.extend hb hB hc).2⟩
end Go.Proofs.Yteehdjkmjncehaa
