/- Arguments opened. -/
import Derived.Test.YtllomldpbkeioaaRows
import Derived.Test.YtllomldpbkeioaaBase
import Derived.Laws.Cover2
import Derived.ProofKit
import Derived.Lib.SmallJoins
import Derived.OpenShut
import Derived.ChangeOld
namespace Go.Proofs.Ytllomldpbkeioaa
open Go.Joins Go.ChangeShapes Go.WideShapes Go.RowKit Go.Deep
theorem own : ownKnob Try.prog.godebug = none := by kernel_rfl
theorem laidOut : laidOutB Try.prog = true := by kernel_rfl
section
variable {H : Type} {enc : TypeId × Value → H} {P : Program} {w : World} {base : Nat} {spare : Nat → Bool} {held : Bool}
theorem trod_float {t : TypeId} {k : FloatKind} {fuel : Nat} {v : Value} {y : DataW H × List MemPlace} (ht : P.underlying t = some (.float k)) (h : DataW.trod enc P w base spare held fuel t [v] = some y) : ∃ b, v = .float k b ∧ (Lit.float k b).wf = true ∧ y = (.lit (.float k b), []) := by
  cases fuel with
  | zero => simp [DataW.trod] at h
  | succ n =>
    simp only [DataW.trod, ht] at h
    cases v <;> simp at h
    rename_i k' b
    obtain ⟨⟨rfl, hw⟩, rfl⟩ := h
    exact ⟨b, rfl, hw, rfl⟩
theorem trod_bool' {t : TypeId} {fuel : Nat} {v : Value} {y : DataW H × List MemPlace} (ht : P.underlying t = some .bool) (h : DataW.trod enc P w base spare held fuel t [v] = some y) : ∃ b, v = .bool b ∧ y = (.lit (.bool b), []) := by
  cases fuel with
  | zero => simp [DataW.trod] at h
  | succ n =>
    simp only [DataW.trod, ht] at h
    cases v <;> simp at h
    exact ⟨_, rfl, h.symm⟩
theorem f64_lt {b : Nat} (h : (Lit.float .f64 b).wf = true) : b < 2^64 := by simpa [Lit.wf] using h
/-- a struct of two float64 -/
theorem open_xy {t e : TypeId} {f0 f1 : Field} {r : Reach} {b0 : Nat} {v : Value} {d : DataW H} {p : List MemPlace} (hs : P.underlying t = some (.struct #[f0, f1])) (hone : oneCellFields P #[f0, f1] = true) (hC : P.cellsOf t = 2) (he : P.underlying e = some (.float .f64)) (h0 : f0.type = e) (h1 : f1.type = e)
    (hv : Value.okWide P w r b0 t v) (h : DataW.Trod enc P w base spare held t v d p) : ∃ x y, v = xyV x y ∧ x < 2^64 ∧ y < 2^64 := by
  obtain ⟨c0, c1, y0, y1, n, rfl, _, _, q0, q1⟩ := open_agg2 hs hone hC hv h
  rw [h0] at q0; rw [h1] at q1
  obtain ⟨x, rfl, hx, _⟩ := trod_float he q0
  obtain ⟨y, rfl, hy, _⟩ := trod_float he q1
  exact ⟨x, y, rfl, f64_lt hx, f64_lt hy⟩
/-- a struct of four float64 -/
theorem open_box {t e : TypeId} {f0 f1 f2 f3 : Field} {r : Reach} {b0 : Nat} {v : Value} {d : DataW H} {p : List MemPlace} (hs : P.underlying t = some (.struct #[f0, f1, f2, f3])) (hone : oneCellFields P #[f0, f1, f2, f3] = true) (hC : P.cellsOf t = 4) (he : P.underlying e = some (.float .f64)) (h0 : f0.type = e) (h1 : f1.type = e) (h2 : f2.type = e) (h3 : f3.type = e)
    (hv : Value.okWide P w r b0 t v) (h : DataW.Trod enc P w base spare held t v d p) : ∃ x y z u, v = .agg #[.float .f64 x, .float .f64 y, .float .f64 z, .float .f64 u] ∧ x < 2^64 ∧ y < 2^64 ∧ z < 2^64 ∧ u < 2^64 := by
  obtain ⟨c0, c1, c2, c3, y0, y1, y2, y3, n, rfl, _, _, q0, q1, q2, q3⟩ := open_agg4 hs hone hC hv h
  rw [h0] at q0; rw [h1] at q1; rw [h2] at q2; rw [h3] at q3
  obtain ⟨x, rfl, hx, _⟩ := trod_float he q0
  obtain ⟨y, rfl, hy, _⟩ := trod_float he q1
  obtain ⟨z, rfl, hz, _⟩ := trod_float he q2
  obtain ⟨u, rfl, hu, _⟩ := trod_float he q3
  exact ⟨x, y, z, u, rfl, f64_lt hx, f64_lt hy, f64_lt hz, f64_lt hu⟩
/-- a struct of a bool and a struct of four float64 -/
theorem open_env {t tb bt e : TypeId} {f0 f1 g0 g1 g2 g3 : Field} {r : Reach} {b0 : Nat} {v : Value} {d : DataW H} {p : List MemPlace} (hs : P.underlying t = some (.struct #[f0, f1])) (hC : P.cellsOf t = 5)
    (hb : P.underlying bt = some .bool) (h0 : f0.type = bt) (o0 : f0.offset = 0) (k0 : P.cellsOf bt = 1) (h1 : f1.type = tb) (o1 : f1.offset = 1)
    (hs' : P.underlying tb = some (.struct #[g0, g1, g2, g3])) (hone : oneCellFields P #[g0, g1, g2, g3] = true) (hC' : P.cellsOf tb = 4) (he : P.underlying e = some (.float .f64)) (e0 : g0.type = e) (e1 : g1.type = e) (e2 : g2.type = e) (e3 : g3.type = e)
    (hv : Value.okWide P w r b0 t v) (h : DataW.Trod enc P w base spare held t v d p) : ∃ f x y z u, v = .agg #[.bool f, .float .f64 x, .float .f64 y, .float .f64 z, .float .f64 u] ∧ x < 2^64 ∧ y < 2^64 ∧ z < 2^64 ∧ u < 2^64 := by
  obtain ⟨cs, rfl, hsz⟩ := okWide_struct hs hv
  obtain ⟨l⟩ := cs
  match l, hsz.trans hC with
  | [c0, c1, c2, c3, c4], _ =>
    obtain ⟨fuel, hf⟩ := h
    obtain ⟨xs, n, _, hx, _, hlen, hg⟩ := DataW.trod_struct hs hf
    match xs, hlen with
    | [y0, y1], _ =>
      have q0 := hg 0 f0 rfl
      have q1 := hg 1 f1 rfl
      rw [h0, k0, o0] at q0
      rw [h1, hC', o1] at q1
      simp [Value.cells] at q0 q1
      obtain ⟨f, rfl, _⟩ := trod_bool' hb q0
      obtain ⟨xs', n', _, hx', _, hlen', hg'⟩ := DataW.trod_struct hs' q1
      match xs', hlen' with
      | [z0, z1, z2, z3], _ =>
        obtain ⟨p0, m0⟩ := hone_of hone 0 g0 rfl
        obtain ⟨p1, m1⟩ := hone_of hone 1 g1 rfl
        obtain ⟨p2, m2⟩ := hone_of hone 2 g2 rfl
        obtain ⟨p3, m3⟩ := hone_of hone 3 g3 rfl
        have r0 := hg' 0 g0 rfl
        have r1 := hg' 1 g1 rfl
        have r2 := hg' 2 g2 rfl
        have r3 := hg' 3 g3 rfl
        rw [m0, p0, e0] at r0; rw [m1, p1, e1] at r1; rw [m2, p2, e2] at r2; rw [m3, p3, e3] at r3
        obtain ⟨x, hc1, hx1, _⟩ := trod_float he (by simpa using r0)
        obtain ⟨y, hc2, hx2, _⟩ := trod_float he (by simpa using r1)
        obtain ⟨z, hc3, hx3, _⟩ := trod_float he (by simpa using r2)
        obtain ⟨u, hc4, hx4, _⟩ := trod_float he (by simpa using r3)
        subst hc1 hc2 hc3 hc4
        exact ⟨f, x, y, z, u, rfl, f64_lt hx1, f64_lt hx2, f64_lt hx3, f64_lt hx4⟩
end
end Go.Proofs.Ytllomldpbkeioaa
