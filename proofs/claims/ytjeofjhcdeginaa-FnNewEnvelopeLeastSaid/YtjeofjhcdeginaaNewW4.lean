/- Walks: the envelope of places; what contains and what covers. -/
import Derived.Test.YtjeofjhcdeginaaNewW3
namespace Go.Proofs.Ytjeofjhcdeginaa
open Go.RowKit Go.Sort Fl FinW EnvW EnvP
namespace NewE
def unf (e : EV) : EV := ⟨true, e.a, e.b, e.c, e.d⟩
set_option maxHeartbeats 1000000 in
theorem new_any (A : Option Addr) (ps : List (Nat × Nat)) (n c : Nat) (hn : n = ps.length) (hm : n ≤ 2000) (hf : (geOfF ps).f = true) (w : World) (hA : XYs w w.heap.size A ps) :
    Calls Try.prog 7 #[.slice A n c] w fun r w' => r = .returned (geOfF ps).V ∧ Below w.heap.size w w' := by
  subst hn
  have c1 := fun (w : World) h => xys_any A ps ps.length c rfl hm w h
  have c2 := fun A c (w : World) h => newenv_any A ps ps.length c rfl (by omega) w h
  have c3 := plainenv_any (geOfF ps) hf
  generalize geOfF ps = E at *
  obtain ⟨f, ea, eb, ec, ed⟩ := E
  simp only at hf
  subst hf
  unfold EV.gV EV.gcells EV.V EV.cells at *
  have C1 := Lib.hid c1
  have C2 := Lib.hid c2
  have C3 := Lib.hid c3
  clear c1 c2 c3
  go_enter Try.func7, Try.ntmps7
  go_wp2_with fail
  refine (C1.out _ (XYs.below hA (b_alloc (Below.refl _ _) _) (by simp))).mono ?_
  rintro e w1 ⟨A', c', rfl, hx, hb1⟩
  go_wp2_with fail
  refine (C2.out _ _ _ hx).mono ?_
  rintro e w2 ⟨rfl, hb2⟩
  go_wp2_with fail
  refine (C3.out _).mono ?_
  rintro e w3 ⟨rfl, hb3⟩
  have k1 := ((((Blk.newAt w 27 #[.bool false, .float .f64 0, .float .f64 0, .float .f64 0, .float .f64 0] rfl).stay hb1)).stay hb2).stay hb3
  have p0 := k1.cell 0
  have p1 := k1.cell 1
  have p2 := k1.cell 2
  have p3 := k1.cell 3
  have p4 := k1.cell 4
  have fz := k1.frozen
  simp at p0 p1 p2 p3 p4
  go_wp2
  clear C1 C2 C3 hx hA
  refine bodyPost_ret (v := .agg #[.bool true, .float .f64 ea, .float .f64 eb, .float .f64 ec, .float .f64 ed]) (by simp [results, Try.results7, go_sem, p0, p1, p2, p3, p4]) rfl ⟨rfl, ?_⟩
  repeat (first | with_reducible refine b_alloc ?_ _ | with_reducible refine b_set ?_ _ (by simp) _)
  (repeat (first | exact Below.refl _ _ | refine b_alloc ?_ _ | refine b_drew ?_ | refine b_drewN ?_ _ | refine b_set ?_ _ (by first | (simp; done) | (simp; omega) | assumption | (dsimp only; omega)) _ | refine b_trans ?_ (by assumption)))
theorem valid_any (x y : Nat) (hx : x < 2^64) (hy : y < 2^64) (qx : finB x = true) (qy : finB y = true) (w : World) : Calls Try.prog 32 #[xyV x y] w fun r w' => r = .returned .nilIface ∧ Below w.heap.size w w' := by
  have C1 := Lib.hid (inf_any x hx)
  have C2 := Lib.hid (inf_any y hy)
  have C3 := Lib.hid (nan_any x)
  have C4 := Lib.hid (nan_any y)
  unfold finB at qx qy
  rw [Bool.and_eq_true, Bool.not_eq_true'] at qx qy
  obtain ⟨x1, x2⟩ := qx
  obtain ⟨y1, y2⟩ := qy
  unfold xyV
  go_enter Try.func32, Try.ntmps32
  go_wp2_with (first | (go_at_call 27; with_reducible refine (C3.out _).mono ?_; rintro e w3 ⟨rfl, rfl⟩) | (go_at_call 27; with_reducible refine (C4.out _).mono ?_; rintro e w3 ⟨rfl, rfl⟩) | (go_at_call 28; with_reducible refine (C1.out _).mono ?_; rintro e w3 ⟨rfl, rfl⟩) | (go_at_call 28; with_reducible refine (C2.out _).mono ?_; rintro e w3 ⟨rfl, rfl⟩))
  go_ret
  refine ⟨rfl, ?_⟩
  (repeat (first | exact Below.refl _ _ | refine b_alloc ?_ _ | refine b_drew ?_ | refine b_drewN ?_ _ | refine b_set ?_ _ (by first | (simp; done) | (simp; omega) | assumption | (dsimp only; omega)) _ | refine b_trans ?_ (by assumption)))
set_option maxHeartbeats 2000000 in
theorem gcontains_any (E : EV) (x y : Nat) (hx : x < 2^64) (hy : y < 2^64) (qx : finB x = true) (qy : finB y = true) (w : World) :
    Calls Try.prog 20 #[E.gV, xyV x y] w fun r w' => r = .returned (.bool (eHasF E x y)) ∧ Below w.heap.size w w' := by
  have c1 := isempty_any E
  have c2 := valid_any x y hx hy qx qy
  have e0 : eHasF E x y = (E.f && fle E.a x && fle x E.c && fle E.b y && fle y E.d) := rfl
  have H0 := Lib.hid e0
  clear e0 qx qy
  obtain ⟨f, a, b, c, d⟩ := E
  simp only at H0
  unfold EV.gV EV.gcells xyV at *
  have C1 := Lib.hid c1
  have C2 := Lib.hid c2
  clear c1 c2
  cases f
  · go_enter Try.func20, Try.ntmps20
    go_wp2_with fail
    refine (C1.out _).mono ?_
    rintro e w1 ⟨rfl, hb1⟩
    obtain ⟨bcw1, bfw1⟩ := bcell hb1
    have zw1_0 : w.heap.size < w1.heap.size := by have := hb1.size; (try simp at this); omega
    have zw1_1 : w.heap.size + 1 < w1.heap.size := by have := hb1.size; (try simp at this); omega
    go_wp2
    go_ret
    refine ⟨by rw [H0.out]; rfl, ?_⟩
    (repeat (first | exact Below.refl _ _ | refine b_alloc ?_ _ | refine b_drew ?_ | refine b_drewN ?_ _ | refine b_set ?_ _ (by first | (simp; done) | (simp; omega) | assumption | (dsimp only; omega)) _ | refine b_trans ?_ (by assumption)))
  · go_enter Try.func20, Try.ntmps20
    go_wp2_with fail
    refine (C1.out _).mono ?_
    rintro e w1 ⟨rfl, hb1⟩
    obtain ⟨bcw1, bfw1⟩ := bcell hb1
    have zw1_0 : w.heap.size < w1.heap.size := by have := hb1.size; (try simp at this); omega
    have zw1_1 : w.heap.size + 1 < w1.heap.size := by have := hb1.size; (try simp at this); omega
    go_wp2_with fail
    refine (C2.out _).mono ?_
    rintro e w2 ⟨rfl, hb2⟩
    obtain ⟨bcw2, bfw2⟩ := bcell hb2
    have zw2_0 : w.heap.size < w2.heap.size := by have := hb2.size; (try simp at this); omega
    have zw2_1 : w.heap.size + 1 < w2.heap.size := by have := hb2.size; (try simp at this); omega
    go_wp2
    all_goals
      go_ret
      refine ⟨by rw [H0.out]; simp [*], ?_⟩
      (repeat (first | exact Below.refl _ _ | refine b_alloc ?_ _ | refine b_drew ?_ | refine b_drewN ?_ _ | refine b_set ?_ _ (by first | (simp; done) | (simp; omega) | assumption | (dsimp only; omega)) _ | refine b_trans ?_ (by assumption)))
def gCoverF (e o : EV) : Bool := e.f && o.f && fle e.a o.a && fle e.b o.b && fle o.c e.c && fle o.d e.d
set_option maxHeartbeats 2000000 in
theorem gcovers_any (E O : EV) (w : World) : Calls Try.prog 22 #[E.gV, O.gV] w fun r w' => r = .returned (.bool (gCoverF E O)) ∧ Below w.heap.size w w' := by
  have c1 := isempty_any E
  have c2 := isempty_any O
  have e0 : gCoverF E O = (E.f && O.f && fle E.a O.a && fle E.b O.b && fle O.c E.c && fle O.d E.d) := rfl
  have H0 := Lib.hid e0
  clear e0
  obtain ⟨f, a, b, c, d⟩ := E
  obtain ⟨f', a', b', c', d'⟩ := O
  simp only at H0
  unfold EV.gV EV.gcells at *
  have C1 := Lib.hid c1
  have C2 := Lib.hid c2
  clear c1 c2
  cases f
  · go_enter Try.func22, Try.ntmps22
    go_wp2_with fail
    refine (C1.out _).mono ?_
    rintro e w1 ⟨rfl, hb1⟩
    obtain ⟨bcw1, bfw1⟩ := bcell hb1
    have zw1_0 : w.heap.size < w1.heap.size := by have := hb1.size; (try simp at this); omega
    have zw1_1 : w.heap.size + 1 < w1.heap.size := by have := hb1.size; (try simp at this); omega
    go_wp2
    go_ret
    refine ⟨by rw [H0.out]; rfl, ?_⟩
    (repeat (first | exact Below.refl _ _ | refine b_alloc ?_ _ | refine b_drew ?_ | refine b_drewN ?_ _ | refine b_set ?_ _ (by first | (simp; done) | (simp; omega) | assumption | (dsimp only; omega)) _ | refine b_trans ?_ (by assumption)))
  · cases f'
    · go_enter Try.func22, Try.ntmps22
      go_wp2_with fail
      refine (C1.out _).mono ?_
      rintro e w1 ⟨rfl, hb1⟩
      obtain ⟨bcw1, bfw1⟩ := bcell hb1
      have zw1_0 : w.heap.size < w1.heap.size := by have := hb1.size; (try simp at this); omega
      have zw1_1 : w.heap.size + 1 < w1.heap.size := by have := hb1.size; (try simp at this); omega
      go_wp2_with fail
      refine (C2.out _).mono ?_
      rintro e w2 ⟨rfl, hb2⟩
      obtain ⟨bcw2, bfw2⟩ := bcell hb2
      have zw2_0 : w.heap.size < w2.heap.size := by have := hb2.size; (try simp at this); omega
      have zw2_1 : w.heap.size + 1 < w2.heap.size := by have := hb2.size; (try simp at this); omega
      go_wp2
      go_ret
      refine ⟨by rw [H0.out]; rfl, ?_⟩
      (repeat (first | exact Below.refl _ _ | refine b_alloc ?_ _ | refine b_drew ?_ | refine b_drewN ?_ _ | refine b_set ?_ _ (by first | (simp; done) | (simp; omega) | assumption | (dsimp only; omega)) _ | refine b_trans ?_ (by assumption)))
    · go_enter Try.func22, Try.ntmps22
      go_wp2_with fail
      refine (C1.out _).mono ?_
      rintro e w1 ⟨rfl, hb1⟩
      obtain ⟨bcw1, bfw1⟩ := bcell hb1
      have zw1_0 : w.heap.size < w1.heap.size := by have := hb1.size; (try simp at this); omega
      have zw1_1 : w.heap.size + 1 < w1.heap.size := by have := hb1.size; (try simp at this); omega
      go_wp2_with fail
      refine (C2.out _).mono ?_
      rintro e w2 ⟨rfl, hb2⟩
      obtain ⟨bcw2, bfw2⟩ := bcell hb2
      have zw2_0 : w.heap.size < w2.heap.size := by have := hb2.size; (try simp at this); omega
      have zw2_1 : w.heap.size + 1 < w2.heap.size := by have := hb2.size; (try simp at this); omega
      go_wp2
      all_goals
        go_ret
        refine ⟨by rw [H0.out]; simp [*], ?_⟩
        (repeat (first | exact Below.refl _ _ | refine b_alloc ?_ _ | refine b_drew ?_ | refine b_drewN ?_ _ | refine b_set ?_ _ (by first | (simp; done) | (simp; omega) | assumption | (dsimp only; omega)) _ | refine b_trans ?_ (by assumption)))
set_option maxHeartbeats 1000000 in
theorem contains_any (e : EV) (x y : Nat) (hx : x < 2^64) (hy : y < 2^64) (qx : finB x = true) (qy : finB y = true) (w : World) : Calls Try.prog 8 #[e.V, xyV x y] w fun r w' => r = .returned (.bool (eHasF (toG e) x y)) ∧ Below w.heap.size w w' := by
  have c1 := fun (w : World) => Calls.inClass (w := w) (envelope_any e)
  have c2 := fun (w : World) => Calls.inClass (w := w) (xy_any x y)
  have c3 := fun (w : World) => Calls.inClass (w := w) (gcontains_any (toG e) x y hx hy qx qy)
  generalize eHasF (toG e) x y = z at *
  generalize toG e = E at *
  obtain ⟨f, a, b, c, d⟩ := e
  obtain ⟨p, p1, p2, p3, p4⟩ := E
  unfold EV.gV EV.gcells EV.V EV.cells xyV at *
  go_enter Try.func8, Try.ntmps8
  go_wp2
  refine wp_region_below (by kernel_rfl) (by kernel_rfl) ?_
  repeat (go_big_quiet_step ((first | with_reducible exact c1 _ _ | with_reducible exact c2 _ _ | with_reducible exact c3 _ _)))
  refine wpQuiet_nil ?_
  intro w1 hb1
  go_wp2
  go_ret
  refine ⟨rfl, ?_⟩
  (repeat (first | exact Below.refl _ _ | refine b_alloc ?_ _ | refine b_drew ?_ | refine b_drewN ?_ _ | refine b_set ?_ _ (by first | (simp; done) | (simp; omega) | assumption | (dsimp only; omega)) _ | refine b_trans ?_ (by assumption)))
set_option maxHeartbeats 1000000 in
theorem covers_any (e o : EV) (w : World) : Calls Try.prog 9 #[e.V, o.V] w fun r w' => r = .returned (.bool (gCoverF (toG e) (toG o))) ∧ Below w.heap.size w w' := by
  have c1 := fun (w : World) => Calls.inClass (w := w) (envelope_any e)
  have c2 := fun (w : World) => Calls.inClass (w := w) (envelope_any o)
  have c3 := fun (w : World) => Calls.inClass (w := w) (gcovers_any (toG e) (toG o))
  generalize gCoverF (toG e) (toG o) = z at *
  generalize toG e = E at *
  generalize toG o = O at *
  obtain ⟨f, a, b, c, d⟩ := e
  obtain ⟨f', a', b', c', d'⟩ := o
  obtain ⟨p, p1, p2, p3, p4⟩ := E
  obtain ⟨q, q1, q2, q3, q4⟩ := O
  unfold EV.gV EV.gcells EV.V EV.cells at *
  go_enter Try.func9, Try.ntmps9
  go_wp2
  refine wp_region_below (by kernel_rfl) (by kernel_rfl) ?_
  repeat (go_big_quiet_step ((first | with_reducible exact c1 _ _ | with_reducible exact c2 _ _ | with_reducible exact c3 _ _)))
  refine wpQuiet_nil ?_
  intro w1 hb1
  go_wp2
  go_ret
  refine ⟨rfl, ?_⟩
  (repeat (first | exact Below.refl _ _ | refine b_alloc ?_ _ | refine b_drew ?_ | refine b_drewN ?_ _ | refine b_set ?_ _ (by first | (simp; done) | (simp; omega) | assumption | (dsimp only; omega)) _ | refine b_trans ?_ (by assumption)))
end NewE
end Go.Proofs.Ytjeofjhcdeginaa
