/- Walks: the plain envelope of the package's. -/
import Derived.Test.YtjeofjhcdeginaaNewW2
namespace Go.Proofs.Ytjeofjhcdeginaa
open Go.RowKit Go.Sort Fl FinW EnvW EnvP
namespace NewE
set_option maxHeartbeats 1000000 in
theorem minmax_any (e : EV) (h : e.f = true) (w : World) : Calls Try.prog 29 #[e.gV] w fun r w' => r = .returned (.tuple #[xyV e.a e.b, xyV e.c e.d, .bool true]) ∧ Below w.heap.size w w' := by
  have ci := isempty_any e
  obtain ⟨f, a, b, c, d⟩ := e
  simp only at h
  subst h
  unfold EV.gV EV.gcells xyV at *
  have CI := Lib.hid ci
  clear ci
  go_enter Try.func29, Try.ntmps29
  go_wp2_with fail
  refine (CI.out _).mono ?_
  rintro e w1 ⟨rfl, hb1⟩
  obtain ⟨bcw1, bfw1⟩ := bcell hb1
  have zw1_0 : w.heap.size < w1.heap.size := by have := hb1.size; (try simp at this); omega
  have zw1_1 : w.heap.size + 1 < w1.heap.size := by have := hb1.size; (try simp at this); omega
  have zw1_2 : w.heap.size + 1 + 1 < w1.heap.size := by have := hb1.size; (try simp at this); omega
  go_wp2
  go_region
  go_wp2
  refine bodyPost_ret (v := .tuple #[.agg #[.float .f64 a, .float .f64 b], .agg #[.float .f64 c, .float .f64 d], .bool true]) (by simp [results, Try.results29, go_sem, *]) rfl ⟨rfl, ?_⟩
  repeat (first | with_reducible refine b_set ?_ _ (by first | (simp; done) | (simp; omega)) _)
  (repeat (first | exact Below.refl _ _ | refine b_alloc ?_ _ | refine b_drew ?_ | refine b_drewN ?_ _ | refine b_set ?_ _ (by first | (simp; done) | (simp; omega) | assumption | (dsimp only; omega)) _ | refine b_trans ?_ (by assumption)))
set_option maxHeartbeats 1000000 in
theorem plainenv_any (e : EV) (h : e.f = true) (w : World) : Calls Try.prog 16 #[e.gV] w fun r w' => r = .returned (EV.V ⟨true, e.a, e.b, e.c, e.d⟩) ∧ Below w.heap.size w w' := by
  have ci := minmax_any e h
  obtain ⟨f, a, b, c, d⟩ := e
  simp only at h
  subst h
  unfold EV.gV EV.gcells EV.V EV.cells xyV at *
  have CI := Lib.hid ci
  clear ci
  go_enter Try.func16, Try.ntmps16
  go_wp2_with fail
  refine (CI.out _).mono ?_
  rintro e w1 ⟨rfl, hb1⟩
  obtain ⟨bcw1, bfw1⟩ := bcell hb1
  have zw1_0 : w.heap.size < w1.heap.size := by have := hb1.size; (try simp at this); omega
  have zw1_1 : w.heap.size + 1 < w1.heap.size := by have := hb1.size; (try simp at this); omega
  have k1 := (Blk.newAt (w.alloc (.cells #[.float .f64 a, .float .f64 b, .float .f64 c, .float .f64 d, .bool true] 46)) 27 #[.bool false, .float .f64 0, .float .f64 0, .float .f64 0, .float .f64 0] (n := w.heap.size + 1) (by simp)).stay hb1
  go_wp2
  clear bcw1 bfw1 CI
  have p0 := k1.cell 0
  have p1 := k1.cell 1
  have p2 := k1.cell 2
  have p3 := k1.cell 3
  have p4 := k1.cell 4
  have fz := k1.frozen
  simp at p0 p1 p2 p3 p4
  refine bodyPost_ret (v := .agg #[.bool true, .float .f64 a, .float .f64 b, .float .f64 c, .float .f64 d]) (by simp [results, Try.results16, go_sem, p0, p1, p2, p3, p4, zw1_0, zw1_1]) rfl ⟨rfl, ?_⟩
  repeat (first | with_reducible refine b_alloc ?_ _ | with_reducible refine b_set ?_ _ (by simp) _)
  (repeat (first | exact Below.refl _ _ | refine b_alloc ?_ _ | refine b_drew ?_ | refine b_drewN ?_ _ | refine b_set ?_ _ (by first | (simp; done) | (simp; omega) | assumption | (dsimp only; omega)) _ | refine b_trans ?_ (by assumption)))
end NewE
end Go.Proofs.Ytjeofjhcdeginaa
