/- Walks: envelopes of the package. -/
import Derived.Test.YtjeofjhcdeginaaEnvW2
namespace Go.Proofs.Ytjeofjhcdeginaa
open Go.RowKit Go.Sort Fl FinW
namespace EnvW
def geStep (e : EV) (p : Nat × Nat) : EV := if e.f then ⟨true, gmin e.a p.1, gmin e.b p.2, gmax e.c p.1, gmax e.d p.2⟩ else ⟨true, p.1, p.2, p.1, p.2⟩
set_option maxHeartbeats 1000000 in
theorem expand_any (e : EV) (x y : Nat) (w : World) : Calls Try.prog 30 #[e.gV, xyV x y] w fun r w' => r = .returned (geStep e (x, y)).gV ∧ Below w.heap.size w w' := by
  have ci := isempty_any e
  have cu := fun a b c d w => unchecked_any a b c d w
  obtain ⟨f, a, b, c, d⟩ := e
  have cmin := fun a b (w : World) => Calls.inClassEq (w := w) (gmin_any a b)
  have cmax := fun a b (w : World) => Calls.inClassEq (w := w) (gmax_any a b)
  have cun := fun a b c d (w : World) => Calls.inClass (w := w) (unchecked_any a b c d)
  unfold EV.gV EV.gcells xyV at *
  have CI := Lib.hid ci
  have CU := Lib.hid cu
  clear ci cu
  cases f
  · clear cmin cmax cun
    go_enter Try.func30, Try.ntmps30
    go_wp2_with fail
    refine (CI.out _).mono ?_
    rintro e w1 ⟨rfl, hb1⟩
    obtain ⟨bcw1, bfw1⟩ := bcell hb1
    have zw1_0 : w.heap.size < w1.heap.size := by have := hb1.size; (try simp at this); omega
    have zw1_1 : w.heap.size + 1 < w1.heap.size := by have := hb1.size; (try simp at this); omega
    have zw1_2 : w.heap.size + 1 + 1 < w1.heap.size := by have := hb1.size; (try simp at this); omega
    go_wp2_with fail
    refine (CU.out _ _ _ _ _).mono ?_
    rintro e w2 ⟨rfl, hb2⟩
    obtain ⟨bcw2, bfw2⟩ := bcell hb2
    have zw2_0 : w.heap.size < w2.heap.size := by have := hb2.size; (try simp at this); omega
    have zw2_1 : w.heap.size + 1 < w2.heap.size := by have := hb2.size; (try simp at this); omega
    have zw2_2 : w.heap.size + 1 + 1 < w2.heap.size := by have := hb2.size; (try simp at this); omega
    go_wp2
    refine bodyPost_ret (v := .agg #[.float .f64 x, .float .f64 y, .float .f64 x, .float .f64 y, .bool true]) (by simp [results, Try.results30, go_sem, *]) rfl ⟨rfl, ?_⟩
    repeat (first | with_reducible refine b_set ?_ _ (by first | (simp; done) | (simp; omega)) _)
    (repeat (first | exact Below.refl _ _ | refine b_alloc ?_ _ | refine b_drew ?_ | refine b_drewN ?_ _ | refine b_set ?_ _ (by first | (simp; done) | (simp; omega) | assumption | (dsimp only; omega)) _ | refine b_trans ?_ (by assumption)))
  · go_enter Try.func30, Try.ntmps30
    go_wp2_with fail
    refine (CI.out _).mono ?_
    rintro e w1 ⟨rfl, hb1⟩
    obtain ⟨bcw1, bfw1⟩ := bcell hb1
    have zw1_0 : w.heap.size < w1.heap.size := by have := hb1.size; (try simp at this); omega
    have zw1_1 : w.heap.size + 1 < w1.heap.size := by have := hb1.size; (try simp at this); omega
    have zw1_2 : w.heap.size + 1 + 1 < w1.heap.size := by have := hb1.size; (try simp at this); omega
    go_wp2
    refine wp_tail_below 27 (by kernel_rfl) (by kernel_rfl) ?_
    simp only [List.take_succ_cons, List.take_zero, List.drop_succ_cons, List.drop_zero]
    repeat (go_big_quiet_step ((first | with_reducible exact cmin _ _ _ _ | with_reducible exact cmax _ _ _ _ | with_reducible exact cun _ _ _ _ _ _)))
    refine wpQuiet_nil ?_
    intro w2 hb2
    obtain ⟨bcw2, bfw2⟩ := bcell hb2
    have zw2_0 : w.heap.size < w2.heap.size := by have := hb2.size; (try simp at this); omega
    have zw2_1 : w.heap.size + 1 < w2.heap.size := by have := hb2.size; (try simp at this); omega
    have zw2_2 : w.heap.size + 1 + 1 < w2.heap.size := by have := hb2.size; (try simp at this); omega
    go_wp2
    refine bodyPost_ret (v := .agg #[.float .f64 (gmin a x), .float .f64 (gmin b y), .float .f64 (gmax c x), .float .f64 (gmax d y), .bool true]) (by simp [results, Try.results30, go_sem, *]) rfl ⟨rfl, ?_⟩
    repeat (first | with_reducible refine b_set ?_ _ (by first | (simp; done) | (simp; omega)) _)
    (repeat (first | exact Below.refl _ _ | refine b_alloc ?_ _ | refine b_drew ?_ | refine b_drewN ?_ _ | refine b_set ?_ _ (by first | (simp; done) | (simp; omega) | assumption | (dsimp only; omega)) _ | refine b_trans ?_ (by assumption)))
def geOfF (ps : List (Nat × Nat)) : EV := ps.foldl geStep ⟨false, 0, 0, 0, 0⟩
set_option maxHeartbeats 2000000 in
theorem newenv_any (A : Option Addr) (ps : List (Nat × Nat)) (n c : Nat) (hn : n = ps.length) (hm : n ≤ 1000000) (w : World) (hA : XYs w w.heap.size A ps) : Calls Try.prog 17 #[.slice A n c] w fun r w' => r = .returned (geOfF ps).gV ∧ Below w.heap.size w w' := by
  subst hn
  go_enter Try.func17, Try.ntmps17
  go_wp2
  go_loopw [8] (fun i wr => ∃ k : Nat, k ≤ ps.length ∧ i = .int .i64 k ∧ Blk wr (w.heap.size + 1) 46 (geOfF (ps.take k)).gcells ∧ Blk wr w.heap.size 46 #[.float .f64 0, .float .f64 0, .float .f64 0, .float .f64 0, .bool false] ∧ Below w.heap.size w wr) (fun i _ => ps.length - (intOf i).toNat)
  case atStart =>
    refine ⟨0, Nat.zero_le _, rfl, Blk.newAt _ _ _ (by simp), (Blk.newAt _ _ _ rfl).alloc _, ?_⟩
    exact b_alloc (b_alloc (Below.refl _ _) _) _
  case round =>
    obtain ⟨k, hk, rfl, h1, h0, hb⟩ := hrel
    have hg1 : w.heap.size + 1 ≠ w.heap.size := by omega
    have hz := h1.lt
    have hgge : w.heap.size ≤ w.heap.size + 1 := by omega
    have q0 := h1.cell 0
    have q1 := h1.cell 1
    have q2 := h1.cell 2
    have q3 := h1.cell 3
    have q4 := h1.cell 4
    have fz := h1.frozen
    by_cases hlt : k < ps.length
    · obtain ⟨b, off, rfl, hbl, hc⟩ := hA (by intro h; subst h; simp at hlt)
      obtain ⟨c1, c2⟩ := hc k hlt
      rw [← hb.cell (p := ⟨b, _, none⟩) hbl] at c1 c2
      have ht : geOfF (ps.take (k + 1)) = geStep (geOfF (ps.take k)) (ps[k].1, ps[k].2) := by
        unfold geOfF; rw [List.take_succ_eq_append_getElem hlt, List.foldl_append]; rfl
      generalize geOfF (ps.take k) = E at *
      generalize ps[k].1 = x at *
      generalize ps[k].2 = y at *
      have ce := expand_any E x y
      rw [← ht] at ce
      have H1 := Lib.hid ht
      clear ht
      generalize hF : geOfF (ps.take (k + 1)) = F at *
      have HF := Lib.hid hF
      clear hF
      obtain ⟨f, ea, eb, ec, ed⟩ := E
      obtain ⟨f', ea', eb', ec', ed'⟩ := F
      unfold EV.gV EV.gcells xyV at ce
      have CE := Lib.hid ce
      clear ce
      simp [EV.gcells] at q0 q1 q2 q3 q4
      generalize w.heap.size + 1 = g1 at *
      go_wp2_with fail
      refine (CE.out _).mono ?_
      rintro e w1 ⟨rfl, hb1⟩
      have j1 := (h1.alloc (.cells #[.float .f64 x, .float .f64 y] 44)).stay hb1
      have j0 := (h0.alloc (.cells #[.float .f64 x, .float .f64 y] 44)).stay hb1
      have p0 := j1.cell 0
      have p1 := j1.cell 1
      have p2 := j1.cell 2
      have p3 := j1.cell 3
      have p4 := j1.cell 4
      have fz1 := j1.frozen
      simp [EV.gcells] at p0 p1 p2 p3 p4
      go_wp2
      go_roundw
      case rel =>
        refine ⟨k + 1, by omega, by go_num, ?_, ?_, ?_⟩
        · rw [HF.out]
          refine Blk.cast (by repeat (first | with_reducible exact j1 | with_reducible apply Blk.alloc | with_reducible apply Blk.set_)) ?_
          simp [EV.gcells]
        · repeat (first | with_reducible exact j0 | with_reducible apply Blk.alloc | with_reducible refine Blk.far ?_ (Ne.symm hg1) _)
        · repeat (first | with_reducible exact hb | with_reducible refine b_alloc ?_ _ | with_reducible refine b_set ?_ _ hgge _ | refine b_trans ?_ (by assumption))
      case measure => simp [intOf]; omega
    · obtain rfl : k = ps.length := by omega
      rw [List.take_length] at *
      generalize hE : geOfF ps = E at *
      have He := Lib.hid hE
      clear hE
      obtain ⟨f, ea, eb, ec, ed⟩ := E
      simp [EV.gcells] at q0 q1 q2 q3 q4
      have p0 := h0.cell 0
      have p1 := h0.cell 1
      have p2 := h0.cell 2
      have p3 := h0.cell 3
      have p4 := h0.cell 4
      have fz0 := h0.frozen
      simp at p0 p1 p2 p3 p4
      go_wp2
      refine bodyPost_ret (v := .agg #[.float .f64 ea, .float .f64 eb, .float .f64 ec, .float .f64 ed, .bool f]) (by simp [results, Try.results17, go_sem, p0, p1, p2, p3, p4]) rfl ⟨by rw [He.out]; rfl, ?_⟩
      repeat (first | with_reducible exact hb | with_reducible refine b_alloc ?_ _ | with_reducible refine b_set ?_ _ (Nat.le_refl _) _)
/-- the package's envelope of a plain one -/
def toG (e : EV) : EV := if e.f then geOfF [(e.a, e.b), (e.c, e.d)] else ⟨false, 0, 0, 0, 0⟩
set_option maxHeartbeats 1000000 in
theorem envelope_any (e : EV) (w : World) : Calls Try.prog 19 #[e.V] w fun r w' => r = .returned (toG e).gV ∧ Below w.heap.size w w' := by
  obtain ⟨f, a, b, c, d⟩ := e
  unfold EV.V EV.cells
  cases f
  · go_enter Try.func19, Try.ntmps19
    go_wp2
    refine bodyPost_ret (v := .agg #[.float .f64 0, .float .f64 0, .float .f64 0, .float .f64 0, .bool false]) (by simp [results, Try.results19, go_sem]) rfl ⟨rfl, ?_⟩
    (repeat (first | exact Below.refl _ _ | refine b_alloc ?_ _ | refine b_drew ?_ | refine b_drewN ?_ _ | refine b_set ?_ _ (by first | (simp; done) | (simp; omega) | assumption | (dsimp only; omega)) _ | refine b_trans ?_ (by assumption)))
  · have cn := fun A c' (w : World) h => newenv_any A [(a, b), (c, d)] 2 c' rfl (by omega) w h
    have e0 : toG ⟨true, a, b, c, d⟩ = geOfF [(a, b), (c, d)] := rfl
    generalize geOfF [(a, b), (c, d)] = E at *
    have H0 := Lib.hid e0
    have CN := Lib.hid cn
    clear e0 cn
    obtain ⟨f', ea, eb, ec, ed⟩ := E
    unfold EV.gV EV.gcells at CN
    go_enter Try.func19, Try.ntmps19
    go_wp2_with fail
    refine (CN.out _ _ _ (two_xys _ _ _ _ (by simp) (by simp) _ _ _ _)).mono ?_
    rintro e w1 ⟨rfl, hb1⟩
    obtain ⟨bcw1, bfw1⟩ := bcell hb1
    have zw1_0 : w.heap.size < w1.heap.size := by have := hb1.size; (try simp at this); omega
    have zw1_1 : w.heap.size + 1 < w1.heap.size := by have := hb1.size; (try simp at this); omega
    have zw1_2 : w.heap.size + 1 + 1 < w1.heap.size := by have := hb1.size; (try simp at this); omega
    go_wp2
    refine bodyPost_ret (v := .agg #[.float .f64 ea, .float .f64 eb, .float .f64 ec, .float .f64 ed, .bool f']) (by simp [results, Try.results19, go_sem, *]) rfl ⟨by rw [H0.out]; rfl, ?_⟩
    (repeat (first | exact Below.refl _ _ | refine b_alloc ?_ _ | refine b_drew ?_ | refine b_drewN ?_ _ | refine b_set ?_ _ (by first | (simp; done) | (simp; omega) | assumption | (dsimp only; omega)) _ | refine b_trans ?_ (by assumption)))
def gMeetF (e o : EV) : Bool := e.f && o.f && fle e.a o.c && fle o.a e.c && fle e.b o.d && fle o.b e.d
end EnvW
end Go.Proofs.Ytjeofjhcdeginaa
