/-
  Elements of the field in blocks; the methods of one call (written by genfp.py).
-/
import Derived.Test.YtgdfdkpkhjbibaaDoorFia
namespace Go.Proofs.YtgdfdkpkhjbibaaDoor
open Go.RowKit
/-- An element laid into a row, in Montgomery's form. -/
noncomputable abbrev fpC (n : Nat) : Array Value := rawC (mont n)
noncomputable abbrev putC (cs : Array Value) (o n : Nat) : Array Value := putR cs o (mont n)
abbrev FpAt (w : World) (b o n : Nat) : Prop := RawAt w b o (mont n)
theorem putC_fpC (m n : Nat) : putC (fpC m) 0 n = fpC n := rfl
/-- By the lists. -/
def LocF (D : Nat → Bool) (w0 : World) (η : List (Nat × Obj)) (b o x : Nat) : Prop := ∀ w, Hold D w0 η w → FpAt w b o x
theorem loc1 (i : Nat) {D : Nat → Bool} {w0 : World} {η : List (Nat × Obj)} {b x T : Nat} (h : η[i]? = some (b, .cells (fpC x) T (0, 0))) : LocF D w0 η b 0 x := fun _ hw => RawAt.row (hw.at h)
/-- A place for an element. -/
structure DstF (D : Nat → Bool) (w0 : World) (η : List (Nat × Obj)) (b o : Nat) (η' : Nat → List (Nat × Obj)) : Prop where
  out : ∃ (i : Nat) (cs : Array Value) (T : Nat), η[i]? = some (b, .cells cs T (0, 0)) ∧ o + nl ≤ cs.size ∧ (w0.heap.size ≤ b ∨ D b = true) ∧ ∀ r, η' r = η.set i (b, .cells (putC cs o r) T (0, 0))
theorem dstf1 (i : Nat) {D : Nat → Bool} {w0 : World} {η : List (Nat × Obj)} {b x T : Nat} (h : η[i]? = some (b, .cells (rawC x) T (0, 0))) (hD : w0.heap.size ≤ b ∨ D b = true) : DstF D w0 η b 0 (fun r => η.set i (b, .cells (fpC r) T (0, 0))) :=
  ⟨i, rawC x, T, h, Nat.le_refl _, hD, fun _ => rfl⟩
theorem dstf_call {D : Nat → Bool} {w0 : World} {η : List (Nat × Obj)} {b o r : Nat} {η' : Nat → List (Nat × Obj)} {f : FuncId} {args : Array Value} (hd : DstF D w0 η b o η')
    (hc : ∀ w, Hold D w0 η w → ∀ cs T, w.heap[b]? = some (.cells cs T (0, 0)) → o + nl ≤ cs.size → Calls Tryd.prog f args w fun e w' => e = .returned (.tuple #[]) ∧ Hold (fun k => k == b) w [(b, .cells (putC cs o r) T (0, 0))] w') :
    ∀ w, Hold D w0 η w → Calls Tryd.prog f args w fun e w' => e = .returned (.tuple #[]) ∧ Hold D w0 (η' r) w' := fun w hw => by
  obtain ⟨i, cs, T, h1, h2, h3, h4⟩ := hd.out
  rw [h4]
  exact lift_one hw h1 h3 (hc w hw cs T (hw.at h1) h2)

theorem fmAdd_any {b o T bx ox x bz oy y : Nat} {cs : Array Value} {w : World} (h0 : w.heap[b]? = some (.cells cs T (0, 0))) (ho : o + nl ≤ cs.size) (hx : FpAt w bx ox x) (_px : x < pf) (hy : FpAt w bz oy y) (_py : y < pf) :
    Calls Tryd.prog 109 #[.pointer (some ⟨b, o, none⟩), .pointer (some ⟨bx, ox, none⟩), .pointer (some ⟨bz, oy, none⟩)] w fun e w' => e = .returned (.tuple #[]) ∧ Hold (fun k => k == b) w [(b, .cells (putC cs o ((x + y) % pf)) T (0, 0))] w' := by

  have h := fiaAddR_any h0 ho hx (mont_lt x) hy (mont_lt y)
  rw [mont_add x y] at h
  exact h

theorem fmAddH {D : Nat → Bool} {w0 : World} {η : List (Nat × Obj)} {b o bx ox x bz oy y : Nat} {η' : Nat → List (Nat × Obj)} (hd : DstF D w0 η b o η') (hx : LocF D w0 η bx ox x) (px : x < pf) (hy : LocF D w0 η bz oy y) (py : y < pf) :
    ∀ w, Hold D w0 η w → Calls Tryd.prog 109 #[.pointer (some ⟨b, o, none⟩), .pointer (some ⟨bx, ox, none⟩), .pointer (some ⟨bz, oy, none⟩)] w fun e w' => e = .returned (.tuple #[]) ∧ Hold D w0 (η' ((x + y) % pf)) w' :=
  dstf_call hd fun w hw _ _ h0 ho => fmAdd_any h0 ho (hx w hw) px (hy w hw) py

theorem fmSub_any {b o T bx ox x bz oy y : Nat} {cs : Array Value} {w : World} (h0 : w.heap[b]? = some (.cells cs T (0, 0))) (ho : o + nl ≤ cs.size) (hx : FpAt w bx ox x) (_px : x < pf) (hy : FpAt w bz oy y) (py : y < pf) :
    Calls Tryd.prog 113 #[.pointer (some ⟨b, o, none⟩), .pointer (some ⟨bx, ox, none⟩), .pointer (some ⟨bz, oy, none⟩)] w fun e w' => e = .returned (.tuple #[]) ∧ Hold (fun k => k == b) w [(b, .cells (putC cs o (subF x y)) T (0, 0))] w' := by

  have h := fiaSubR_any h0 ho hx (mont_lt x) hy (mont_lt y)
  rw [mont_sub py] at h
  exact h

theorem fmSubH {D : Nat → Bool} {w0 : World} {η : List (Nat × Obj)} {b o bx ox x bz oy y : Nat} {η' : Nat → List (Nat × Obj)} (hd : DstF D w0 η b o η') (hx : LocF D w0 η bx ox x) (px : x < pf) (hy : LocF D w0 η bz oy y) (py : y < pf) :
    ∀ w, Hold D w0 η w → Calls Tryd.prog 113 #[.pointer (some ⟨b, o, none⟩), .pointer (some ⟨bx, ox, none⟩), .pointer (some ⟨bz, oy, none⟩)] w fun e w' => e = .returned (.tuple #[]) ∧ Hold D w0 (η' (subF x y)) w' :=
  dstf_call hd fun w hw _ _ h0 ho => fmSub_any h0 ho (hx w hw) px (hy w hw) py

theorem fmMul_any {b o T bx ox x bz oy y : Nat} {cs : Array Value} {w : World} (h0 : w.heap[b]? = some (.cells cs T (0, 0))) (ho : o + nl ≤ cs.size) (hx : FpAt w bx ox x) (_px : x < pf) (hy : FpAt w bz oy y) (_py : y < pf) :
    Calls Tryd.prog 110 #[.pointer (some ⟨b, o, none⟩), .pointer (some ⟨bx, ox, none⟩), .pointer (some ⟨bz, oy, none⟩)] w fun e w' => e = .returned (.tuple #[]) ∧ Hold (fun k => k == b) w [(b, .cells (putC cs o (x * y % pf)) T (0, 0))] w' := by

  have h := fiaMulR_any h0 ho hx (mont_lt x) hy (mont_lt y)
  rw [mm_mont x y] at h
  exact h

theorem fmMulH {D : Nat → Bool} {w0 : World} {η : List (Nat × Obj)} {b o bx ox x bz oy y : Nat} {η' : Nat → List (Nat × Obj)} (hd : DstF D w0 η b o η') (hx : LocF D w0 η bx ox x) (px : x < pf) (hy : LocF D w0 η bz oy y) (py : y < pf) :
    ∀ w, Hold D w0 η w → Calls Tryd.prog 110 #[.pointer (some ⟨b, o, none⟩), .pointer (some ⟨bx, ox, none⟩), .pointer (some ⟨bz, oy, none⟩)] w fun e w' => e = .returned (.tuple #[]) ∧ Hold D w0 (η' (x * y % pf)) w' :=
  dstf_call hd fun w hw _ _ h0 ho => fmMul_any h0 ho (hx w hw) px (hy w hw) py

theorem fmSqr_any {b o T bx ox x : Nat} {cs : Array Value} {w : World} (h0 : w.heap[b]? = some (.cells cs T (0, 0))) (ho : o + nl ≤ cs.size) (hx : FpAt w bx ox x) (_px : x < pf) :
    Calls Tryd.prog 114 #[.pointer (some ⟨b, o, none⟩), .pointer (some ⟨bx, ox, none⟩)] w fun e w' => e = .returned (.tuple #[]) ∧ Hold (fun k => k == b) w [(b, .cells (putC cs o (x * x % pf)) T (0, 0))] w' := by

  have h := fiaSqrR_any h0 ho hx (mont_lt x)
  rw [mm_mont x x] at h
  exact h

theorem fmSqrH {D : Nat → Bool} {w0 : World} {η : List (Nat × Obj)} {b o bx ox x : Nat} {η' : Nat → List (Nat × Obj)} (hd : DstF D w0 η b o η') (hx : LocF D w0 η bx ox x) (px : x < pf) :
    ∀ w, Hold D w0 η w → Calls Tryd.prog 114 #[.pointer (some ⟨b, o, none⟩), .pointer (some ⟨bx, ox, none⟩)] w fun e w' => e = .returned (.tuple #[]) ∧ Hold D w0 (η' (x * x % pf)) w' :=
  dstf_call hd fun w hw _ _ h0 ho => fmSqr_any h0 ho (hx w hw) px

theorem fpAdd_any {b o T bx ox x bz oy y : Nat} {cs : Array Value} {w : World} (h0 : w.heap[b]? = some (.cells cs T (0, 0))) (ho : o + nl ≤ cs.size) (hx : FpAt w bx ox x) (px : x < pf) (hy : FpAt w bz oy y) (py : y < pf) :
    Calls Tryd.prog 79 #[.pointer (some ⟨b, o, none⟩), .pointer (some ⟨bx, ox, none⟩), .pointer (some ⟨bz, oy, none⟩)] w fun e w' => e = .returned (.tuple #[]) ∧ Hold (fun k => k == b) w [(b, .cells (putC cs o ((x + y) % pf)) T (0, 0))] w' := by
  refine calls_H (args := [.pointer (some ⟨b, o, none⟩), .pointer (some ⟨bx, ox, none⟩), .pointer (some ⟨bz, oy, none⟩)]) (fun k => k == b) [(b, .cells cs T (0, 0))] Tryd.func79 rfl (m := 10) rfl rfl (hold_one h0) ?_
  refine HC.region ?_
  refine HL.val (Val.move rfl) (by decide) ?_
  refine HL.val (Val.move rfl) (by decide) ?_
  refine HL.val (Val.move rfl) (by decide) ?_
  refine HL.callD en109 rfl (fun w hw => lift_one hw (i := 0) rfl (ownB b) (fmAdd_any (hw.at (i := 0) rfl) ho (hx.same hw h0 0 rfl) px (hy.same hw h0 0 rfl) py)) (by decide) ?_
  simp only [List.set_cons_zero]
  refine HL.nil ?_
  exact HQ.end0 rfl (fun w hw => ⟨rfl, hw⟩)

theorem fpAddH {D : Nat → Bool} {w0 : World} {η : List (Nat × Obj)} {b o bx ox x bz oy y : Nat} {η' : Nat → List (Nat × Obj)} (hd : DstF D w0 η b o η') (hx : LocF D w0 η bx ox x) (px : x < pf) (hy : LocF D w0 η bz oy y) (py : y < pf) :
    ∀ w, Hold D w0 η w → Calls Tryd.prog 79 #[.pointer (some ⟨b, o, none⟩), .pointer (some ⟨bx, ox, none⟩), .pointer (some ⟨bz, oy, none⟩)] w fun e w' => e = .returned (.tuple #[]) ∧ Hold D w0 (η' ((x + y) % pf)) w' :=
  dstf_call hd fun w hw _ _ h0 ho => fpAdd_any h0 ho (hx w hw) px (hy w hw) py

theorem fpSub_any {b o T bx ox x bz oy y : Nat} {cs : Array Value} {w : World} (h0 : w.heap[b]? = some (.cells cs T (0, 0))) (ho : o + nl ≤ cs.size) (hx : FpAt w bx ox x) (px : x < pf) (hy : FpAt w bz oy y) (py : y < pf) :
    Calls Tryd.prog 85 #[.pointer (some ⟨b, o, none⟩), .pointer (some ⟨bx, ox, none⟩), .pointer (some ⟨bz, oy, none⟩)] w fun e w' => e = .returned (.tuple #[]) ∧ Hold (fun k => k == b) w [(b, .cells (putC cs o (subF x y)) T (0, 0))] w' := by
  refine calls_H (args := [.pointer (some ⟨b, o, none⟩), .pointer (some ⟨bx, ox, none⟩), .pointer (some ⟨bz, oy, none⟩)]) (fun k => k == b) [(b, .cells cs T (0, 0))] Tryd.func85 rfl (m := 10) rfl rfl (hold_one h0) ?_
  refine HC.region ?_
  refine HL.val (Val.move rfl) (by decide) ?_
  refine HL.val (Val.move rfl) (by decide) ?_
  refine HL.val (Val.move rfl) (by decide) ?_
  refine HL.callD en113 rfl (fun w hw => lift_one hw (i := 0) rfl (ownB b) (fmSub_any (hw.at (i := 0) rfl) ho (hx.same hw h0 0 rfl) px (hy.same hw h0 0 rfl) py)) (by decide) ?_
  simp only [List.set_cons_zero]
  refine HL.nil ?_
  exact HQ.end0 rfl (fun w hw => ⟨rfl, hw⟩)

theorem fpSubH {D : Nat → Bool} {w0 : World} {η : List (Nat × Obj)} {b o bx ox x bz oy y : Nat} {η' : Nat → List (Nat × Obj)} (hd : DstF D w0 η b o η') (hx : LocF D w0 η bx ox x) (px : x < pf) (hy : LocF D w0 η bz oy y) (py : y < pf) :
    ∀ w, Hold D w0 η w → Calls Tryd.prog 85 #[.pointer (some ⟨b, o, none⟩), .pointer (some ⟨bx, ox, none⟩), .pointer (some ⟨bz, oy, none⟩)] w fun e w' => e = .returned (.tuple #[]) ∧ Hold D w0 (η' (subF x y)) w' :=
  dstf_call hd fun w hw _ _ h0 ho => fpSub_any h0 ho (hx w hw) px (hy w hw) py

theorem fpMul_any {b o T bx ox x bz oy y : Nat} {cs : Array Value} {w : World} (h0 : w.heap[b]? = some (.cells cs T (0, 0))) (ho : o + nl ≤ cs.size) (hx : FpAt w bx ox x) (px : x < pf) (hy : FpAt w bz oy y) (py : y < pf) :
    Calls Tryd.prog 80 #[.pointer (some ⟨b, o, none⟩), .pointer (some ⟨bx, ox, none⟩), .pointer (some ⟨bz, oy, none⟩)] w fun e w' => e = .returned (.tuple #[]) ∧ Hold (fun k => k == b) w [(b, .cells (putC cs o (x * y % pf)) T (0, 0))] w' := by
  refine calls_H (args := [.pointer (some ⟨b, o, none⟩), .pointer (some ⟨bx, ox, none⟩), .pointer (some ⟨bz, oy, none⟩)]) (fun k => k == b) [(b, .cells cs T (0, 0))] Tryd.func80 rfl (m := 10) rfl rfl (hold_one h0) ?_
  refine HC.region ?_
  refine HL.val (Val.move rfl) (by decide) ?_
  refine HL.val (Val.move rfl) (by decide) ?_
  refine HL.val (Val.move rfl) (by decide) ?_
  refine HL.callD en110 rfl (fun w hw => lift_one hw (i := 0) rfl (ownB b) (fmMul_any (hw.at (i := 0) rfl) ho (hx.same hw h0 0 rfl) px (hy.same hw h0 0 rfl) py)) (by decide) ?_
  simp only [List.set_cons_zero]
  refine HL.nil ?_
  exact HQ.end0 rfl (fun w hw => ⟨rfl, hw⟩)

theorem fpMulH {D : Nat → Bool} {w0 : World} {η : List (Nat × Obj)} {b o bx ox x bz oy y : Nat} {η' : Nat → List (Nat × Obj)} (hd : DstF D w0 η b o η') (hx : LocF D w0 η bx ox x) (px : x < pf) (hy : LocF D w0 η bz oy y) (py : y < pf) :
    ∀ w, Hold D w0 η w → Calls Tryd.prog 80 #[.pointer (some ⟨b, o, none⟩), .pointer (some ⟨bx, ox, none⟩), .pointer (some ⟨bz, oy, none⟩)] w fun e w' => e = .returned (.tuple #[]) ∧ Hold D w0 (η' (x * y % pf)) w' :=
  dstf_call hd fun w hw _ _ h0 ho => fpMul_any h0 ho (hx w hw) px (hy w hw) py

theorem fpSqr_any {b o T bx ox x : Nat} {cs : Array Value} {w : World} (h0 : w.heap[b]? = some (.cells cs T (0, 0))) (ho : o + nl ≤ cs.size) (hx : FpAt w bx ox x) (px : x < pf) :
    Calls Tryd.prog 87 #[.pointer (some ⟨b, o, none⟩), .pointer (some ⟨bx, ox, none⟩)] w fun e w' => e = .returned (.tuple #[]) ∧ Hold (fun k => k == b) w [(b, .cells (putC cs o (x * x % pf)) T (0, 0))] w' := by
  refine calls_H (args := [.pointer (some ⟨b, o, none⟩), .pointer (some ⟨bx, ox, none⟩)]) (fun k => k == b) [(b, .cells cs T (0, 0))] Tryd.func87 rfl (m := 7) rfl rfl (hold_one h0) ?_
  refine HC.region ?_
  refine HL.val (Val.move rfl) (by decide) ?_
  refine HL.val (Val.move rfl) (by decide) ?_
  refine HL.callD en114 rfl (fun w hw => lift_one hw (i := 0) rfl (ownB b) (fmSqr_any (hw.at (i := 0) rfl) ho (hx.same hw h0 0 rfl) px)) (by decide) ?_
  simp only [List.set_cons_zero]
  refine HL.nil ?_
  exact HQ.end0 rfl (fun w hw => ⟨rfl, hw⟩)

theorem fpSqrH {D : Nat → Bool} {w0 : World} {η : List (Nat × Obj)} {b o bx ox x : Nat} {η' : Nat → List (Nat × Obj)} (hd : DstF D w0 η b o η') (hx : LocF D w0 η bx ox x) (px : x < pf) :
    ∀ w, Hold D w0 η w → Calls Tryd.prog 87 #[.pointer (some ⟨b, o, none⟩), .pointer (some ⟨bx, ox, none⟩)] w fun e w' => e = .returned (.tuple #[]) ∧ Hold D w0 (η' (x * x % pf)) w' :=
  dstf_call hd fun w hw _ _ h0 ho => fpSqr_any h0 ho (hx w hw) px

theorem fpAddAssign_any {b o T bz oy x y : Nat} {cs : Array Value} {w : World} (h0 : w.heap[b]? = some (.cells cs T (0, 0))) (ho : o + nl ≤ cs.size) (hx : FpAt w b o x) (px : x < pf) (hy : FpAt w bz oy y) (py : y < pf) :
    Calls Tryd.prog 112 #[.pointer (some ⟨b, o, none⟩), .pointer (some ⟨bz, oy, none⟩)] w fun e w' => e = .returned (.tuple #[]) ∧ Hold (fun k => k == b) w [(b, .cells (putC cs o ((x + y) % pf)) T (0, 0))] w' := by
  refine calls_H (args := [.pointer (some ⟨b, o, none⟩), .pointer (some ⟨bz, oy, none⟩)]) (fun k => k == b) [(b, .cells cs T (0, 0))] Tryd.func112 rfl (m := 8) rfl rfl (hold_one h0) ?_
  refine HC.region ?_
  refine HL.val (Val.move rfl) (by decide) ?_
  refine HL.val (Val.move rfl) (by decide) ?_
  refine HL.val (Val.move rfl) (by decide) ?_
  refine HL.callD en109 rfl (fun w hw => lift_one hw (i := 0) rfl (ownB b) (fmAdd_any (hw.at (i := 0) rfl) ho (hx.same hw h0 0 rfl) px (hy.same hw h0 0 rfl) py)) (by decide) ?_
  simp only [List.set_cons_zero]
  refine HL.nil ?_
  exact HQ.end0 rfl (fun w hw => ⟨rfl, hw⟩)

theorem fpAddAssignH {D : Nat → Bool} {w0 : World} {η : List (Nat × Obj)} {b o bz oy x y : Nat} {η' : Nat → List (Nat × Obj)} (hd : DstF D w0 η b o η') (hx : LocF D w0 η b o x) (px : x < pf) (hy : LocF D w0 η bz oy y) (py : y < pf) :
    ∀ w, Hold D w0 η w → Calls Tryd.prog 112 #[.pointer (some ⟨b, o, none⟩), .pointer (some ⟨bz, oy, none⟩)] w fun e w' => e = .returned (.tuple #[]) ∧ Hold D w0 (η' ((x + y) % pf)) w' :=
  dstf_call hd fun w hw _ _ h0 ho => fpAddAssign_any h0 ho (hx w hw) px (hy w hw) py

theorem fpSubAssign_any {b o T bz oy x y : Nat} {cs : Array Value} {w : World} (h0 : w.heap[b]? = some (.cells cs T (0, 0))) (ho : o + nl ≤ cs.size) (hx : FpAt w b o x) (px : x < pf) (hy : FpAt w bz oy y) (py : y < pf) :
    Calls Tryd.prog 119 #[.pointer (some ⟨b, o, none⟩), .pointer (some ⟨bz, oy, none⟩)] w fun e w' => e = .returned (.tuple #[]) ∧ Hold (fun k => k == b) w [(b, .cells (putC cs o (subF x y)) T (0, 0))] w' := by
  refine calls_H (args := [.pointer (some ⟨b, o, none⟩), .pointer (some ⟨bz, oy, none⟩)]) (fun k => k == b) [(b, .cells cs T (0, 0))] Tryd.func119 rfl (m := 8) rfl rfl (hold_one h0) ?_
  refine HC.region ?_
  refine HL.val (Val.move rfl) (by decide) ?_
  refine HL.val (Val.move rfl) (by decide) ?_
  refine HL.val (Val.move rfl) (by decide) ?_
  refine HL.callD en113 rfl (fun w hw => lift_one hw (i := 0) rfl (ownB b) (fmSub_any (hw.at (i := 0) rfl) ho (hx.same hw h0 0 rfl) px (hy.same hw h0 0 rfl) py)) (by decide) ?_
  simp only [List.set_cons_zero]
  refine HL.nil ?_
  exact HQ.end0 rfl (fun w hw => ⟨rfl, hw⟩)

theorem fpSubAssignH {D : Nat → Bool} {w0 : World} {η : List (Nat × Obj)} {b o bz oy x y : Nat} {η' : Nat → List (Nat × Obj)} (hd : DstF D w0 η b o η') (hx : LocF D w0 η b o x) (px : x < pf) (hy : LocF D w0 η bz oy y) (py : y < pf) :
    ∀ w, Hold D w0 η w → Calls Tryd.prog 119 #[.pointer (some ⟨b, o, none⟩), .pointer (some ⟨bz, oy, none⟩)] w fun e w' => e = .returned (.tuple #[]) ∧ Hold D w0 (η' (subF x y)) w' :=
  dstf_call hd fun w hw _ _ h0 ho => fpSubAssign_any h0 ho (hx w hw) px (hy w hw) py

theorem fpMulAssign_any {b o T bz oy x y : Nat} {cs : Array Value} {w : World} (h0 : w.heap[b]? = some (.cells cs T (0, 0))) (ho : o + nl ≤ cs.size) (hx : FpAt w b o x) (px : x < pf) (hy : FpAt w bz oy y) (py : y < pf) :
    Calls Tryd.prog 111 #[.pointer (some ⟨b, o, none⟩), .pointer (some ⟨bz, oy, none⟩)] w fun e w' => e = .returned (.tuple #[]) ∧ Hold (fun k => k == b) w [(b, .cells (putC cs o (x * y % pf)) T (0, 0))] w' := by
  refine calls_H (args := [.pointer (some ⟨b, o, none⟩), .pointer (some ⟨bz, oy, none⟩)]) (fun k => k == b) [(b, .cells cs T (0, 0))] Tryd.func111 rfl (m := 8) rfl rfl (hold_one h0) ?_
  refine HC.region ?_
  refine HL.val (Val.move rfl) (by decide) ?_
  refine HL.val (Val.move rfl) (by decide) ?_
  refine HL.val (Val.move rfl) (by decide) ?_
  refine HL.callD en110 rfl (fun w hw => lift_one hw (i := 0) rfl (ownB b) (fmMul_any (hw.at (i := 0) rfl) ho (hx.same hw h0 0 rfl) px (hy.same hw h0 0 rfl) py)) (by decide) ?_
  simp only [List.set_cons_zero]
  refine HL.nil ?_
  exact HQ.end0 rfl (fun w hw => ⟨rfl, hw⟩)

theorem fpMulAssignH {D : Nat → Bool} {w0 : World} {η : List (Nat × Obj)} {b o bz oy x y : Nat} {η' : Nat → List (Nat × Obj)} (hd : DstF D w0 η b o η') (hx : LocF D w0 η b o x) (px : x < pf) (hy : LocF D w0 η bz oy y) (py : y < pf) :
    ∀ w, Hold D w0 η w → Calls Tryd.prog 111 #[.pointer (some ⟨b, o, none⟩), .pointer (some ⟨bz, oy, none⟩)] w fun e w' => e = .returned (.tuple #[]) ∧ Hold D w0 (η' (x * y % pf)) w' :=
  dstf_call hd fun w hw _ _ h0 ho => fpMulAssign_any h0 ho (hx w hw) px (hy w hw) py
end Go.Proofs.YtgdfdkpkhjbibaaDoor
