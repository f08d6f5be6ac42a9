/- Arguments opened. -/
import Derived.Test.YtaljjmodabjaeaaRows
import Derived.Test.YtaljjmodabjaeaaBase
import Derived.Laws.Cover2
import Derived.ProofKit
import Derived.Lib.SmallJoins
import Derived.OpenShut
import Derived.ChangeOld
namespace Go.Proofs.Ytaljjmodabjaeaa
open Go.Joins Go.ChangeShapes Go.WideShapes Go.RowKit Go.Deep
theorem own : ownKnob Try.prog.godebug = none := by kernel_rfl
theorem laidOut : laidOutB Try.prog = true := by kernel_rfl
section
variable {H : Type} {enc : TypeId × Value → H} {P : Program} {w : World} {base : Nat} {spare : Nat → Bool} {held : Bool}
theorem trod_float {t : TypeId} {k : FloatKind} {fuel : Nat} {v : Value} {y : DataW H × List MemPlace} (ht : P.underlying t = some (.float k)) (h : DataW.trod enc P w base spare held fuel t [v] = some y) : ∃ b, v = .float k b ∧ (Lit.float k b).wf = true ∧ y = (.lit (.float k b), []) := by
  cases fuel with
  | zero => simp [DataW.trod] at h
  | succ n =>
    simp only [DataW.trod, ht] at h
    cases v <;> simp at h
    rename_i k' b
    obtain ⟨⟨rfl, hw⟩, rfl⟩ := h
    exact ⟨b, rfl, hw, rfl⟩
theorem trod_bool' {t : TypeId} {fuel : Nat} {v : Value} {y : DataW H × List MemPlace} (ht : P.underlying t = some .bool) (h : DataW.trod enc P w base spare held fuel t [v] = some y) : ∃ b, v = .bool b ∧ y = (.lit (.bool b), []) := by
  cases fuel with
  | zero => simp [DataW.trod] at h
  | succ n =>
    simp only [DataW.trod, ht] at h
    cases v <;> simp at h
    exact ⟨_, rfl, h.symm⟩
theorem f64_lt {b : Nat} (h : (Lit.float .f64 b).wf = true) : b < 2^64 := by simpa [Lit.wf] using h
/-- a struct of two float64 -/
theorem open_xy {t e : TypeId} {f0 f1 : Field} {r : Reach} {b0 : Nat} {v : Value} {d : DataW H} {p : List MemPlace} (hs : P.underlying t = some (.struct #[f0, f1])) (hone : oneCellFields P #[f0, f1] = true) (hC : P.cellsOf t = 2) (he : P.underlying e = some (.float .f64)) (h0 : f0.type = e) (h1 : f1.type = e)
    (hv : Value.okWide P w r b0 t v) (h : DataW.Trod enc P w base spare held t v d p) : ∃ x y, v = xyV x y ∧ x < 2^64 ∧ y < 2^64 := by
  obtain ⟨c0, c1, y0, y1, n, rfl, _, _, q0, q1⟩ := open_agg2 hs hone hC hv h
  rw [h0] at q0; rw [h1] at q1
  obtain ⟨x, rfl, hx, _⟩ := trod_float he q0
  obtain ⟨y, rfl, hy, _⟩ := trod_float he q1
  exact ⟨x, y, rfl, f64_lt hx, f64_lt hy⟩
end
end Go.Proofs.Ytaljjmodabjaeaa
