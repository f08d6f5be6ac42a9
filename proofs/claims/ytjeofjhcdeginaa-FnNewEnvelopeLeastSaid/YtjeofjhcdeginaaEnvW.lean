/- Walks: envelopes. -/
import Derived.Test.YtjeofjhcdeginaaFinW
import Derived.Test.YtjeofjhcdeginaaTail
namespace Go.Proofs.Ytjeofjhcdeginaa
open Go.RowKit Go.Sort Fl FinW
namespace EnvW
def fin4 (a b c d : Nat) : Bool := finB a && finB b && finB c && finB d
theorem efin_any (a b c d : Nat) (ha : a < 2^64) (hb : b < 2^64) (hc : c < 2^64) (hd : d < 2^64) (w : World) : Calls Try.prog 15 #[.agg #[.float .f64 a, .float .f64 b, .float .f64 c, .float .f64 d]] w fun e w' => e = .returned (.bool (fin4 a b c d)) ∧ Below w.heap.size w w' := by
  have e0 : fin4 a b c d = (finB a && finB b && finB c && finB d) := rfl
  have H0 := Lib.hid e0
  clear e0
  go_enter Try.func15, Try.ntmps15
  go_wp2_with (first | (go_at_call 14; with_reducible refine (gfin_any _ ha _).mono ?_; rintro e w1 ⟨rfl, rfl⟩) | (go_at_call 14; with_reducible refine (gfin_any _ hb _).mono ?_; rintro e w1 ⟨rfl, rfl⟩) | (go_at_call 14; with_reducible refine (gfin_any _ hc _).mono ?_; rintro e w1 ⟨rfl, rfl⟩) | (go_at_call 14; with_reducible refine (gfin_any _ hd _).mono ?_; rintro e w1 ⟨rfl, rfl⟩))
  all_goals
    go_ret
    refine ⟨by rw [H0.out]; simp [*], ?_⟩
    (repeat (first | exact Below.refl _ _ | refine b_alloc ?_ _ | refine b_drew ?_ | refine b_drewN ?_ _ | refine b_set ?_ _ (by first | (simp; done) | (simp; omega) | assumption | (dsimp only; omega)) _ | refine b_trans ?_ (by assumption)))
/-- an envelope of the thin package, as data -/
structure EV where
  f : Bool
  a : Nat
  b : Nat
  c : Nat
  d : Nat
def EV.cells (e : EV) : Array Value := #[.bool e.f, .float .f64 e.a, .float .f64 e.b, .float .f64 e.c, .float .f64 e.d]
def EV.V (e : EV) : Value := .agg e.cells
def eStep (e : EV) (p : Nat × Nat) : EV :=
  if e.f then ⟨true, if flt p.1 e.a then p.1 else e.a, if flt p.2 e.b then p.2 else e.b, if flt e.c p.1 then p.1 else e.c, if flt e.d p.2 then p.2 else e.d⟩ else ⟨true, p.1, p.2, p.1, p.2⟩
def eOfF (ps : List (Nat × Nat)) : EV := ps.foldl eStep ⟨false, 0, 0, 0, 0⟩
set_option maxHeartbeats 1000000 in
theorem eof_any (A : Option Addr) (ps : List (Nat × Nat)) (n c : Nat) (hn : n = ps.length) (hm : n ≤ 1000000) (w : World) (hA : XYs w w.heap.size A ps) : Calls Try.prog 25 #[.slice A n c] w fun r w' => r = .returned (eOfF ps).V ∧ Below w.heap.size w w' := by
  subst hn
  go_enter Try.func25, Try.ntmps25
  go_wp2
  go_loopw [8] (fun i wr => ∃ k : Nat, k ≤ ps.length ∧ i = .int .i64 k ∧ Blk wr (w.heap.size + 1) 27 (eOfF (ps.take k)).cells ∧ Blk wr w.heap.size 27 #[.bool false, .float .f64 0, .float .f64 0, .float .f64 0, .float .f64 0] ∧ Below w.heap.size w wr) (fun i _ => ps.length - (intOf i).toNat)
  case atStart =>
    refine ⟨0, Nat.zero_le _, rfl, Blk.newAt _ _ _ (by simp), (Blk.newAt _ _ _ rfl).alloc _, ?_⟩
    exact b_alloc (b_alloc (Below.refl _ _) _) _
  case round =>
    obtain ⟨k, hk, rfl, h1, h0, hb⟩ := hrel
    have hg1 : w.heap.size + 1 ≠ w.heap.size := by omega
    have hz := h1.lt
    have hgge : w.heap.size ≤ w.heap.size + 1 := by omega
    have q0 := h1.cell 0
    have q1 := h1.cell 1
    have q2 := h1.cell 2
    have q3 := h1.cell 3
    have q4 := h1.cell 4
    have fz := h1.frozen
    by_cases hlt : k < ps.length
    · obtain ⟨b, off, rfl, hbl, hc⟩ := hA (by intro h; subst h; simp at hlt)
      obtain ⟨c1, c2⟩ := hc k hlt
      rw [← hb.cell (p := ⟨b, _, none⟩) hbl] at c1 c2
      have ht : eOfF (ps.take (k + 1)) = eStep (eOfF (ps.take k)) (ps[k].1, ps[k].2) := by
        unfold eOfF; rw [List.take_succ_eq_append_getElem hlt, List.foldl_append]; rfl
      have H1 := Lib.hid ht
      clear ht
      generalize eOfF (ps.take k) = E at *
      generalize ps[k].1 = x at *
      generalize ps[k].2 = y at *
      obtain ⟨f, ea, eb, ec, ed⟩ := E
      simp [EV.cells] at q0 q1 q2 q3 q4
      generalize w.heap.size + 1 = g1 at *
      cases f
      · go_wp2
        go_roundw
        case rel =>
          refine ⟨k + 1, by omega, by go_num, ?_, ?_, ?_⟩
          · rw [H1.out]
            refine Blk.cast (by repeat (first | with_reducible exact h1 | with_reducible apply Blk.alloc | with_reducible apply Blk.set_)) ?_
            simp [EV.cells, eStep, *]
          · repeat (first | with_reducible exact h0 | with_reducible apply Blk.alloc | with_reducible refine Blk.far ?_ (Ne.symm hg1) _)
          · repeat (first | with_reducible exact hb | with_reducible refine b_alloc ?_ _ | with_reducible refine b_set ?_ _ hgge _)
        case measure => simp [intOf]; omega
      · go_wp2
        all_goals
          go_roundw
          case rel =>
            refine ⟨k + 1, by omega, by go_num, ?_, ?_, ?_⟩
            · rw [H1.out]
              refine Blk.cast (by repeat (first | with_reducible exact h1 | with_reducible apply Blk.alloc | with_reducible apply Blk.set_)) ?_
              simp [EV.cells, eStep, *]
            · repeat (first | with_reducible exact h0 | with_reducible apply Blk.alloc | with_reducible refine Blk.far ?_ (Ne.symm hg1) _)
            · repeat (first | with_reducible exact hb | with_reducible refine b_alloc ?_ _ | with_reducible refine b_set ?_ _ hgge _)
          case measure => simp [intOf]; omega
    · obtain rfl : k = ps.length := by omega
      rw [List.take_length] at *
      generalize hE : eOfF ps = E at *
      have He := Lib.hid hE
      clear hE
      obtain ⟨f, ea, eb, ec, ed⟩ := E
      simp [EV.cells] at q0 q1 q2 q3 q4
      have p0 := h0.cell 0
      have p1 := h0.cell 1
      have p2 := h0.cell 2
      have p3 := h0.cell 3
      have p4 := h0.cell 4
      have fz0 := h0.frozen
      simp at p0 p1 p2 p3 p4
      go_wp2
      refine bodyPost_ret (v := .agg #[.bool f, .float .f64 ea, .float .f64 eb, .float .f64 ec, .float .f64 ed]) (by simp [results, Try.results25, go_sem, p0, p1, p2, p3, p4]) rfl ⟨by rw [He.out]; rfl, ?_⟩
      repeat (first | with_reducible exact hb | with_reducible refine b_alloc ?_ _ | with_reducible refine b_set ?_ _ (Nat.le_refl _) _)
def eCornersF (e : EV) : List (Nat × Nat) := if e.f then [(e.a, e.b), (e.c, e.d)] else []
theorem two_xys (w : World) (t : TypeId) (n B : Nat) (hn : n = w.heap.size) (hB : n < B) (a b c d : Nat) : XYs (w.alloc (.cells #[.float .f64 a, .float .f64 b, .float .f64 c, .float .f64 d] t)) B (some ⟨n, 0, none⟩) [(a, b), (c, d)] := by
  subst hn
  intro _
  refine ⟨_, _, rfl, hB, fun i hi => ?_⟩
  have hi' : i < 2 := hi
  match i, hi' with
  | 0, _ => exact ⟨by simp [go_sem], by simp [go_sem]⟩
  | 1, _ => exact ⟨by simp [go_sem], by simp [go_sem]⟩
theorem XYs.below {w w' : World} {B : Nat} {A : Option Addr} {ps : List (Nat × Nat)} (h : XYs w B A ps) (hb : Below B w w') {B' : Nat} (hB : B ≤ B') : XYs w' B' A ps := by
  intro hne
  obtain ⟨b, off, e, hlt, hc⟩ := h hne
  refine ⟨b, off, e, by omega, fun i hi => ?_⟩
  rw [hb.cell (p := ⟨b, _, none⟩) hlt, hb.cell (p := ⟨b, _, none⟩) hlt]
  exact hc i hi
theorem ecorners_any (e : EV) (w : World) : Calls Try.prog 26 #[e.V] w fun r w' => ∃ A n c, r = .returned (.slice A n c) ∧ n = (eCornersF e).length ∧ XYs w' w'.heap.size A (eCornersF e) ∧ Below w.heap.size w w' := by
  obtain ⟨f, a, b, c, d⟩ := e
  unfold EV.V EV.cells
  cases f
  · go_enter Try.func26, Try.ntmps26
    go_wp2
    go_ret
    refine ⟨none, 0, 0, rfl, rfl, fun h => absurd rfl h, ?_⟩
    (repeat (first | exact Below.refl _ _ | refine b_alloc ?_ _ | refine b_drew ?_ | refine b_drewN ?_ _ | refine b_set ?_ _ (by first | (simp; done) | (simp; omega) | assumption | (dsimp only; omega)) _ | refine b_trans ?_ (by assumption)))
  · go_enter Try.func26, Try.ntmps26
    go_wp2
    go_ret
    refine ⟨some ⟨w.heap.size + 1, 0, none⟩, 2, 2, rfl, rfl, ?_, ?_⟩
    · exact two_xys _ _ _ _ (by simp) (by simp) _ _ _ _
    · (repeat (first | exact Below.refl _ _ | refine b_alloc ?_ _ | refine b_drew ?_ | refine b_drewN ?_ _ | refine b_set ?_ _ (by first | (simp; done) | (simp; omega) | assumption | (dsimp only; omega)) _ | refine b_trans ?_ (by assumption)))
set_option maxHeartbeats 1000000 in
theorem emade_any (e : EV) (w : World) : Calls Try.prog 12 #[e.V] w fun r w' => r = .returned (eOfF (eCornersF e)).V ∧ Below w.heap.size w w' := by
  have c1 := ecorners_any e
  have hl : (eCornersF e).length ≤ 1000000 := by unfold eCornersF; split <;> simp
  generalize eCornersF e = ps at *
  have c2 := fun A n c hn w => eof_any A ps n c hn (by omega) w
  generalize eOfF ps = E at *
  obtain ⟨f, a, b, cc, d⟩ := e
  obtain ⟨f2, a2, b2, c2', d2⟩ := E
  unfold EV.V EV.cells at *
  have C1 := Lib.hid c1
  have C2 := Lib.hid c2
  clear c1 c2
  go_enter Try.func12, Try.ntmps12
  go_wp2_with fail
  refine (C1.out _).mono ?_
  rintro e w1 ⟨A, n, c, rfl, rfl, hx, hb1⟩
  have k1 := (Blk.newAt (w.alloc (.cells #[.bool f, .float .f64 a, .float .f64 b, .float .f64 cc, .float .f64 d] 27)) 27 #[.bool false, .float .f64 0, .float .f64 0, .float .f64 0, .float .f64 0] (n := w.heap.size + 1) (by simp)).stay hb1
  go_wp2_with fail
  refine (C2.out _ _ _ rfl _ hx).mono ?_
  rintro e w2 ⟨rfl, hb2⟩
  have k2 := k1.stay hb2
  have p0 := k2.cell 0
  have p1 := k2.cell 1
  have p2 := k2.cell 2
  have p3 := k2.cell 3
  have p4 := k2.cell 4
  have fz0 := k2.frozen
  simp at p0 p1 p2 p3 p4
  go_wp2
  refine bodyPost_ret (v := .agg #[.bool f2, .float .f64 a2, .float .f64 b2, .float .f64 c2', .float .f64 d2]) (by simp [results, Try.results12, go_sem, p0, p1, p2, p3, p4]) rfl ⟨rfl, ?_⟩
  repeat (first | with_reducible refine b_set ?_ _ (by simp) _)
  (repeat (first | exact Below.refl _ _ | refine b_alloc ?_ _ | refine b_drew ?_ | refine b_drewN ?_ _ | refine b_set ?_ _ (by first | (simp; done) | (simp; omega) | assumption | (dsimp only; omega)) _ | refine b_trans ?_ (by assumption)))
end EnvW
end Go.Proofs.Ytjeofjhcdeginaa
