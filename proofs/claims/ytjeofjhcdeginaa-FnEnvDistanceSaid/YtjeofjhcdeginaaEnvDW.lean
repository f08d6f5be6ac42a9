/- FnEnvDistance: the walk. -/
import Derived.Test.YtjeofjhcdeginaaEnvDL
import Derived.Deep.DeepCutAuto
namespace Go.Proofs.Ytjeofjhcdeginaa
open Go.RowKit Go.Sort Fl FinW EnvW NumW EnvP
namespace EnvD
theorem gap_any (a b c d : Nat) (ha : fin a) (hb : fin b) (hc : fin c) (hd : fin d) (w : World) : Calls Try.prog 13 #[.float .f64 a, .float .f64 b, .float .f64 c, .float .f64 d] w fun r w' => r = .returned (.float .f64 (gapL a b c d)) ∧ w = w' := by
  have n0 : num 0 := num0
  have n1 := num_fsub ha hd
  have n2 := num_fsub hc hb
  have e0 : gapL a b c d = bmax (bmax 0 (fsub a d)) (fsub c b) := rfl
  have H0 := Lib.hid e0
  clear e0
  go_enter Try.func13, Try.ntmps13
  go_wp2
  go_ret
  exact ⟨by rw [H0.out]; rfl, rfl⟩
set_option maxHeartbeats 1000000 in
theorem dist_full {e o : EV} {x y z : Nat} (F : Facts e o z x y) (w : World) : Calls Try.prog 11 #[e.V, o.V] w fun r w' => r = .returned (.tuple #[.float .f64 z, .bool true]) ∧ Below w.heap.size w w' := by
  have c1 := fun (w : World) => Calls.inClass (w := w) (envelope_any e)
  have c2 := fun (w : World) => Calls.inClass (w := w) (envelope_any o)
  have c3 := fun (w : World) => Calls.inClass (w := w) (gdist_any (toG e) (toG o) F.f1 F.f2 F.e1 F.e2 F.q1 F.q2 F.q3 F.q4 z F.r)
  clear F
  generalize toG e = E at *
  generalize toG o = O at *
  obtain ⟨f, a, b, c, d⟩ := e
  obtain ⟨f', a', b', c', d'⟩ := o
  obtain ⟨p, p1, p2, p3, p4⟩ := E
  obtain ⟨q, q1, q2, q3, q4⟩ := O
  unfold EV.gV EV.gcells EV.V EV.cells at *
  go_enter Try.func11, Try.ntmps11
  go_wp2
  refine wp_region_below (by kernel_rfl) (by kernel_rfl) ?_
  repeat (go_big_quiet_step ((first | with_reducible exact c1 _ _ | with_reducible exact c2 _ _ | with_reducible exact c3 _ _)))
  refine wpQuiet_nil ?_
  intro w1 hb1
  go_wp2
  refine bodyPost_ret (v := .tuple #[.float .f64 z, .bool true]) (by simp [results, Try.results11, go_sem]) rfl ⟨rfl, ?_⟩
  (repeat (first | exact Below.refl _ _ | refine b_alloc ?_ _ | refine b_drew ?_ | refine b_drewN ?_ _ | refine b_set ?_ _ (by first | (simp; done) | (simp; omega) | assumption | (dsimp only; omega)) _ | refine b_trans ?_ (by assumption)))
set_option maxHeartbeats 1000000 in
theorem gdist_none (E O : EV) (h : (E.f && O.f) = false) (w : World) : Calls Try.prog 24 #[E.gV, O.gV] w fun r w' => r = .returned (.tuple #[.float .f64 0, .bool false]) ∧ Below w.heap.size w w' := by
  have c1 := isempty_any E
  have c2 := isempty_any O
  obtain ⟨f, a, b, c, d⟩ := E
  obtain ⟨f', a', b', c', d'⟩ := O
  simp only at h
  have C1 := Lib.hid c1
  have C2 := Lib.hid c2
  clear c1 c2
  unfold EV.gV EV.gcells at *
  cases f
  · go_enter Try.func24, Try.ntmps24
    go_wp2_with fail
    refine (C1.out _).mono ?_
    rintro e w1 ⟨rfl, hb1⟩
    obtain ⟨bcw1, bfw1⟩ := bcell hb1
    have zw1_0 : w.heap.size < w1.heap.size := by have := hb1.size; (try simp at this); omega
    have zw1_1 : w.heap.size + 1 < w1.heap.size := by have := hb1.size; (try simp at this); omega
    go_wp2
    refine bodyPost_ret (v := .tuple #[.float .f64 0, .bool false]) (by simp [results, Try.results24, go_sem]) rfl ⟨rfl, ?_⟩
    (repeat (first | exact Below.refl _ _ | refine b_alloc ?_ _ | refine b_drew ?_ | refine b_drewN ?_ _ | refine b_set ?_ _ (by first | (simp; done) | (simp; omega) | assumption | (dsimp only; omega)) _ | refine b_trans ?_ (by assumption)))
  · cases f'
    · go_enter Try.func24, Try.ntmps24
      go_wp2_with fail
      refine (C1.out _).mono ?_
      rintro e w1 ⟨rfl, hb1⟩
      obtain ⟨bcw1, bfw1⟩ := bcell hb1
      have zw1_0 : w.heap.size < w1.heap.size := by have := hb1.size; (try simp at this); omega
      have zw1_1 : w.heap.size + 1 < w1.heap.size := by have := hb1.size; (try simp at this); omega
      go_wp2_with fail
      refine (C2.out _).mono ?_
      rintro e w2 ⟨rfl, hb2⟩
      obtain ⟨bcw2, bfw2⟩ := bcell hb2
      have zw2_0 : w.heap.size < w2.heap.size := by have := hb2.size; (try simp at this); omega
      have zw2_1 : w.heap.size + 1 < w2.heap.size := by have := hb2.size; (try simp at this); omega
      go_wp2
      refine bodyPost_ret (v := .tuple #[.float .f64 0, .bool false]) (by simp [results, Try.results24, go_sem]) rfl ⟨rfl, ?_⟩
      (repeat (first | exact Below.refl _ _ | refine b_alloc ?_ _ | refine b_drew ?_ | refine b_drewN ?_ _ | refine b_set ?_ _ (by first | (simp; done) | (simp; omega) | assumption | (dsimp only; omega)) _ | refine b_trans ?_ (by assumption)))
    · simp at h
theorem geOf_full (a b c d : Nat) : (geOfF [(a, b), (c, d)]).f = true := rfl
theorem toG_f (e : EV) : (toG e).f = e.f := by
  unfold toG
  cases h : e.f
  · rfl
  · exact geOf_full _ _ _ _
set_option maxHeartbeats 1000000 in
theorem dist_none (e o : EV) (h : (e.f && o.f) = false) (w : World) : Calls Try.prog 11 #[e.V, o.V] w fun r w' => r = .returned (.tuple #[.float .f64 0, .bool false]) ∧ Below w.heap.size w w' := by
  have c1 := fun (w : World) => Calls.inClass (w := w) (envelope_any e)
  have c2 := fun (w : World) => Calls.inClass (w := w) (envelope_any o)
  have c3 := fun (w : World) => Calls.inClass (w := w) (gdist_none (toG e) (toG o) (by rw [toG_f, toG_f]; exact h))
  generalize toG e = E at *
  generalize toG o = O at *
  obtain ⟨f, a, b, c, d⟩ := e
  obtain ⟨f', a', b', c', d'⟩ := o
  obtain ⟨p, p1, p2, p3, p4⟩ := E
  obtain ⟨q, q1, q2, q3, q4⟩ := O
  unfold EV.gV EV.gcells EV.V EV.cells at *
  go_enter Try.func11, Try.ntmps11
  go_wp2
  refine wp_region_below (by kernel_rfl) (by kernel_rfl) ?_
  repeat (go_big_quiet_step ((first | with_reducible exact c1 _ _ | with_reducible exact c2 _ _ | with_reducible exact c3 _ _)))
  refine wpQuiet_nil ?_
  intro w1 hb1
  go_wp2
  refine bodyPost_ret (v := .tuple #[.float .f64 0, .bool false]) (by simp [results, Try.results11, go_sem]) rfl ⟨rfl, ?_⟩
  (repeat (first | exact Below.refl _ _ | refine b_alloc ?_ _ | refine b_drew ?_ | refine b_drewN ?_ _ | refine b_set ?_ _ (by first | (simp; done) | (simp; omega) | assumption | (dsimp only; omega)) _ | refine b_trans ?_ (by assumption)))
end EnvD
end Go.Proofs.Ytjeofjhcdeginaa
