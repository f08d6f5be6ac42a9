/- Walks: envelopes meet. -/
import Derived.Test.YtaljjmodabjaeaaEnvW3
namespace Go.Proofs.Ytaljjmodabjaeaa
open Go.RowKit Go.Sort Fl FinW
namespace EnvW
set_option maxHeartbeats 1000000 in
theorem gmeet_any (e o : EV) (w : World) : Calls Try.prog 33 #[e.gV, o.gV] w fun r w' => r = .returned (.bool (gMeetF e o)) ∧ Below w.heap.size w w' := by
  have e0 : gMeetF e o = (e.f && o.f && fle e.a o.c && fle o.a e.c && fle e.b o.d && fle o.b e.d) := rfl
  have H0 := Lib.hid e0
  have c1 := isempty_any e
  have c2 := isempty_any o
  clear e0
  obtain ⟨f, a, b, c, d⟩ := e
  obtain ⟨f', a', b', c', d'⟩ := o
  simp only at H0
  unfold EV.gV EV.gcells at *
  have C1 := Lib.hid c1
  have C2 := Lib.hid c2
  clear c1 c2
  cases f
  · go_enter Try.func33, Try.ntmps33
    go_wp2_with fail
    refine (C1.out _).mono ?_
    rintro e w1 ⟨rfl, hb1⟩
    go_wp2
    go_ret
    refine ⟨by rw [H0.out]; rfl, ?_⟩
    (repeat (first | exact Below.refl _ _ | refine b_alloc ?_ _ | refine b_drew ?_ | refine b_drewN ?_ _ | refine b_set ?_ _ (by first | (simp; done) | (simp; omega) | assumption | (dsimp only; omega)) _ | refine b_trans ?_ (by assumption)))
  · cases f'
    · go_enter Try.func33, Try.ntmps33
      go_wp2_with fail
      refine (C1.out _).mono ?_
      rintro e w1 ⟨rfl, hb1⟩
      obtain ⟨bcw1, bfw1⟩ := bcell hb1
      have zw1_0 : w.heap.size < w1.heap.size := by have := hb1.size; (try simp at this); omega
      have zw1_1 : w.heap.size + 1 < w1.heap.size := by have := hb1.size; (try simp at this); omega
      go_wp2_with fail
      refine (C2.out _).mono ?_
      rintro e w2 ⟨rfl, hb2⟩
      go_wp2
      go_ret
      refine ⟨by rw [H0.out]; rfl, ?_⟩
      (repeat (first | exact Below.refl _ _ | refine b_alloc ?_ _ | refine b_drew ?_ | refine b_drewN ?_ _ | refine b_set ?_ _ (by first | (simp; done) | (simp; omega) | assumption | (dsimp only; omega)) _ | refine b_trans ?_ (by assumption)))
    · go_enter Try.func33, Try.ntmps33
      go_wp2_with fail
      refine (C1.out _).mono ?_
      rintro e w1 ⟨rfl, hb1⟩
      obtain ⟨bcw1, bfw1⟩ := bcell hb1
      have zw1_0 : w.heap.size < w1.heap.size := by have := hb1.size; (try simp at this); omega
      have zw1_1 : w.heap.size + 1 < w1.heap.size := by have := hb1.size; (try simp at this); omega
      go_wp2_with fail
      refine (C2.out _).mono ?_
      rintro e w2 ⟨rfl, hb2⟩
      obtain ⟨bcw2, bfw2⟩ := bcell hb2
      have zw2_0 : w.heap.size < w2.heap.size := by have := hb2.size; (try simp at this); omega
      have zw2_1 : w.heap.size + 1 < w2.heap.size := by have := hb2.size; (try simp at this); omega
      go_wp2
      all_goals
        go_ret
        refine ⟨by rw [H0.out]; simp [*], ?_⟩
        (repeat (first | exact Below.refl _ _ | refine b_alloc ?_ _ | refine b_drew ?_ | refine b_drewN ?_ _ | refine b_set ?_ _ (by first | (simp; done) | (simp; omega) | assumption | (dsimp only; omega)) _ | refine b_trans ?_ (by assumption)))
set_option maxHeartbeats 1000000 in
theorem meet_any (e o : EV) (w : World) : Calls Try.prog 20 #[e.V, o.V] w fun r w' => r = .returned (.bool (gMeetF (toG e) (toG o))) ∧ Below w.heap.size w w' := by
  have c1 := fun (w : World) => Calls.inClass (w := w) (envelope_any e)
  have c2 := fun (w : World) => Calls.inClass (w := w) (envelope_any o)
  have c3 := fun (w : World) => Calls.inClass (w := w) (gmeet_any (toG e) (toG o))
  generalize gMeetF (toG e) (toG o) = z at *
  generalize toG e = E at *
  generalize toG o = O at *
  obtain ⟨f, a, b, c, d⟩ := e
  obtain ⟨f', a', b', c', d'⟩ := o
  obtain ⟨p, p1, p2, p3, p4⟩ := E
  obtain ⟨q, q1, q2, q3, q4⟩ := O
  unfold EV.gV EV.gcells EV.V EV.cells at *
  go_enter Try.func20, Try.ntmps20
  go_wp2
  refine wp_region_below (by kernel_rfl) (by kernel_rfl) ?_
  repeat (go_big_quiet_step ((first | with_reducible exact c1 _ _ | with_reducible exact c2 _ _ | with_reducible exact c3 _ _)))
  refine wpQuiet_nil ?_
  intro w1 hb1
  go_wp2
  go_ret
  refine ⟨rfl, ?_⟩
  (repeat (first | exact Below.refl _ _ | refine b_alloc ?_ _ | refine b_drew ?_ | refine b_drewN ?_ _ | refine b_set ?_ _ (by first | (simp; done) | (simp; omega) | assumption | (dsimp only; omega)) _ | refine b_trans ?_ (by assumption)))
end EnvW
end Go.Proofs.Ytaljjmodabjaeaa
