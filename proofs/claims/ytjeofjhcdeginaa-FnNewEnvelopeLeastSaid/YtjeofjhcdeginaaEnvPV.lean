/- FnEnvIntersectsPlace: the walk. -/
import Derived.Test.YtjeofjhcdeginaaEnvPW
import Derived.Deep.DeepCutAuto
namespace Go.Proofs.Ytjeofjhcdeginaa
open Go.RowKit Go.Sort Fl FinW EnvW
namespace EnvP
abbrev zBox : Obj := .cells #[.float .f64 0, .float .f64 0, .float .f64 0, .float .f64 0] 25
@[go_sem] theorem field_env (f : Bool) (a b c d : Nat) (w : World) : (Instr.field 27 (.agg #[.bool f, .float .f64 a, .float .f64 b, .float .f64 c, .float .f64 d]) 1).run Try.prog w = .ok (.agg #[.float .f64 a, .float .f64 b, .float .f64 c, .float .f64 d]) w := by kernel_rfl
def boxWr (i mi : Nat) (d s : Tmp) : Wr := { i := i, mi := mi, d := d, s := s, good := fun v => ∃ a b c e, v = .agg #[.float .f64 a, .float .f64 b, .float .f64 c, .float .f64 e], out := fun v => .cells v.cells 25 }
theorem store_box (a : Act) (o : Oper) (d s : Tmp) (ho : o.op = .store 25 (.tmp d) (.tmp s)) (g : Nat) (w : World) (h1 : a.tmps.getD d undef = ptrAt g) (x y z u : Nat) (h2 : a.tmps.getD s undef = .agg #[.float .f64 x, .float .f64 y, .float .f64 z, .float .f64 u]) (hh : Blk w g 25 #[.float .f64 0, .float .f64 0, .float .f64 0, .float .f64 0]) :
    (execOp a.eval o).run Try.prog w = .ok .skip ((((w.setCell ⟨g, 0, none⟩ (.float .f64 x)).setCell ⟨g, 1, none⟩ (.float .f64 y)).setCell ⟨g, 2, none⟩ (.float .f64 z)).setCell ⟨g, 3, none⟩ (.float .f64 u)) := by
  have q0 := hh.cell 0
  have q1 := hh.cell 1
  have q2 := hh.cell 2
  have q3 := hh.cell 3
  have fz := hh.frozen
  simp at q0 q1 q2 q3
  unfold ptrAt at h1
  simp [execOp, ho, Act.eval, h1, h2, go_sem, q0, q1, q2, q3, fz]
theorem boxWr_ok {ops : Array Oper} {ms : List Mk} {n i mi : Nat} {d s : Tmp} {o : Oper} (ho : ops[i]? = some o) (hod : o.dst = none) (hog : o.guard = none) (hop : o.op = .store 25 (.tmp d) (.tmp s)) (hi : i < n) (hm : (⟨mi, d, zBox⟩ : Mk) ∈ ms) (hs : ∀ y ∈ ms, y.d ≠ s) (hw : Region.waitsFor .any ops i mi = true) :
    WrOk Try.prog ops ms n (boxWr i mi d s) := by
  refine ⟨o, ⟨mi, d, zBox⟩, ho, hod, hog, hi, hm, rfl, rfl, hs, hw, fun a g w h1 hg hh => ?_⟩
  obtain ⟨x, y, z, u, h2⟩ := hg
  have hB : Blk w g 25 #[.float .f64 0, .float .f64 0, .float .f64 0, .float .f64 0] := hh
  refine ⟨.skip, _, store_box a o d s hop g w h1 x y z u h2 hB, .inl rfl, rfl, rfl, rfl, by simp [World.setCell], fun k hk => ?_, ?_⟩
  · rw [Below.heap_setCell _ _ _ _ hk, Below.heap_setCell _ _ _ _ hk, Below.heap_setCell _ _ _ _ hk, Below.heap_setCell _ _ _ _ hk]
  · have := (((hB.set_ 0 (.float .f64 x)).set_ 1 (.float .f64 y)).set_ 2 (.float .f64 z)).set_ 3 (.float .f64 u)
    show _ = some (Obj.cells (Value.cells (a.tmps.getD s undef)) _)
    rw [show a.tmps.getD s undef = _ from h2]
    exact this
end EnvP
end Go.Proofs.Ytjeofjhcdeginaa
