/-
  The symbolic walk: results of two kinds.
-/
import Derived.Test.YteehdjkmjncehaaHR
namespace Go.Proofs.Yteehdjkmjncehaa
open Go.RowKit
section
variable {P : Program} {D : Nat → Bool} {w0 : World} {n : Nat} {σ : List (Nat × Value)} {η : List (Nat × Obj)}
/-- Results: a block and a slot. -/
theorem HQ.retct {fn : Func} {p q : Tmp} {t T : TypeId} {b : Nat} {cs : Array Value} {v : Value} {d : TypeDesc} {R : Ending → World → Prop} (i : Nat) (hr : fn.results = #[.cell p t, .tmp q]) (hp : σ.lookup p = some (.pointer (some ⟨b, 0, none⟩))) (hq : σ.lookup q = some v) (hi : η[i]? = some (b, .cells cs T (0, 0)))
    (hu : P.underlying t = some d) (hd : (match d with | .struct _ | .array _ _ => true | _ => false) = true) (hs : (P.info? t).map (·.size) = some cs.size) (h : ∀ w, Hold D w0 η w → R (.returned (.tuple #[.agg cs, v])) w) : HQ (bodyPost P fn R) .ret D w0 n σ η := ⟨fun a w ha hw => by
  refine bodyPost_ret (v := .tuple #[.agg cs, v]) ?_ ha.defers (h w hw)
  have h1 : a.tmps[p]?.getD undef = .pointer (some ⟨b, 0, none⟩) := by simp [ha.held p _ hp]
  have h2 : a.tmps[q]?.getD undef = v := by simp [ha.held q _ hq]
  simp [results, hr, h1, h2, asAddr, run_loadVar_row w b T t cs (0, 0) d (hw.at hi) hu hd hs]⟩
end
end Go.Proofs.Yteehdjkmjncehaa
