/- FnEnvDistance: the walk of the law. -/
import Derived.Test.YtjeofjhcdeginaaEnvDW
import Derived.Deep.DeepCutAuto
namespace Go.Proofs.Ytjeofjhcdeginaa
open Go.RowKit Go.Sort Fl FinW EnvW NumW EnvP
namespace EnvD
set_option maxHeartbeats 4000000 in
theorem walk0 (e o : EV) (w : World) : Calls Try.prog 4 #[e.V, o.V] w fun r w' => r = .returned (.bool true) ∧ Below w.heap.size w w' := by
  have cf := fun A (w : World) h => eround_any A [e, o] 2 2 rfl (by omega) w h
  have hev := fun (w : World) t n B hn hB => two_evs w t n B hn hB e o
  by_cases q0 : eRoundF [e, o] = true
  · rw [q0] at cf
    by_cases hf : (e.f && o.f) = true
    · rw [Bool.and_eq_true] at hf
      obtain ⟨z, F⟩ := rnd_facts q0 hf.1 hf.2
      have cd := dist_full F
      have g1 := F.n1
      have g2 := F.n2
      have c5 := gap_any (mk e).a (mk e).c (mk o).a (mk o).c g1.a g1.c g2.a g2.c
      have c6 := gap_any (mk e).b (mk e).d (mk o).b (mk o).d g1.b g1.d g2.b g2.d
      have n3 := F.n3
      have n4 := F.n4
      have l1 := F.law
      have l2 := F.law2
      have k1 := fun w => emade_any e w
      have k2 := fun w => emade_any o w
      rw [show eOfF (eCornersF e) = mk e from rfl] at k1
      rw [show eOfF (eCornersF o) = mk o from rfl] at k2
      obtain ⟨f1, f2⟩ := hf
      clear F q0
      generalize gapL (mk e).a (mk e).c (mk o).a (mk o).c = x at *
      generalize gapL (mk e).b (mk e).d (mk o).b (mk o).d = y at *
      have c1 := fun (w : World) => Calls.inClass (w := w) k1
      have c2 := fun (w : World) => Calls.inClass (w := w) k2
      have c5 := fun (w : World) => Calls.inClassEq (w := w) c5
      have c6 := fun (w : World) => Calls.inClassEq (w := w) c6
      have nx := fin_num n3
      have ny := fin_num n4
      clear k1 k2 g1 g2
      generalize mk e = E at *
      generalize mk o = O at *
      obtain ⟨ef, ea, eb, ec, ed⟩ := e
      obtain ⟨of', oa, ob, oc, od⟩ := o
      obtain ⟨Ef, Ea, Eb, Ec, Ed⟩ := E
      obtain ⟨Of, Oa, Ob, Oc, Od⟩ := O
      simp only at f1 f2 c5 c6 hev
      subst f1 f2
      unfold EV.V EV.cells at *
      have CF := Lib.hid cf
      have HE := Lib.hid hev
      have CD := Lib.hid cd
      have L1 := Lib.hid l1
      have L2 := Lib.hid l2
      clear cf hev cd l1 l2
      go_enter Try.func4, Try.ntmps4
      go_upto_region 1 with fail
      go_wp2_with fail
      refine (CF.out _ _ ?_).mono ?_
      · exact HE.out _ _ _ _ (by simp) (by simp)
      rintro e w1 ⟨rfl, hb1⟩
      obtain ⟨bcw1, bfw1⟩ := bcell hb1
      have zw1_0 : w.heap.size < w1.heap.size := by have := hb1.size; (try simp at this); omega
      have zw1_1 : w.heap.size + 1 < w1.heap.size := by have := hb1.size; (try simp at this); omega
      have zw1_2 : w.heap.size + 1 + 1 < w1.heap.size := by have := hb1.size; (try simp at this); omega
      go_wp2_with fail
      refine (CD.out _).mono ?_
      rintro e w2 ⟨rfl, hb2⟩
      obtain ⟨bcw2, bfw2⟩ := bcell hb2
      have zw2_0 : w.heap.size < w2.heap.size := by have := hb2.size; (try simp at this); omega
      have zw2_1 : w.heap.size + 1 < w2.heap.size := by have := hb2.size; (try simp at this); omega
      have zw2_2 : w.heap.size + 1 + 1 < w2.heap.size := by have := hb2.size; (try simp at this); omega
      go_upto_region 6 with fail
      refine wp_region_makers [⟨6, 7, zBox⟩, ⟨7, 8, zBox⟩] [boxWr 8 6 7 34] 9 (by kernel_rfl) (by kernel_rfl) ?hok ?hwok ?hlk (by kernel_rfl) (by decide) (by decide) (by decide) (by decide) ?hsz ?_
      case hok =>
        intro m hm
        simp only [List.mem_cons, List.not_mem_nil, or_false] at hm
        rcases hm with rfl | rfl
        · exact ⟨_, rfl, rfl, rfl, by decide, fun ev w => by kernel_rfl⟩
        · exact ⟨_, rfl, rfl, rfl, by decide, fun ev w => by kernel_rfl⟩
      case hwok =>
        intro x hx
        simp only [List.mem_cons, List.not_mem_nil, or_false] at hx
        subst hx
        exact boxWr_ok rfl rfl rfl rfl (by decide) (by simp) (by decide) (by kernel_rfl)
      case hlk =>
        intro x hx
        simp only [List.mem_cons, List.not_mem_nil, or_false] at hx
        subst hx
        exact ⟨_, rfl, rfl, by decide⟩
      case hsz =>
        intro m hm
        simp only [List.mem_cons, List.not_mem_nil, or_false] at hm
        rcases hm with rfl | rfl <;> simp
      simp only [List.take_succ_cons, List.take_zero]
      repeat (first
        | refine wpM_skip rfl ?_
        | refine wpM_write rfl rfl (by intro z hz e; simp only [List.mem_cons, List.not_mem_nil, or_false] at hz; subst hz; exact ⟨_, _, _, _, rfl⟩) ?_
        | (apply wpM_want rfl rfl rfl _ rfl (by simp)
           focus
             intro w3 hb3 K hK
             obtain ⟨bc3, bf3⟩ := bcell hb3
             have y0 := Nat.lt_of_lt_of_le zw2_0 hb3.size
             have y1 := Nat.lt_of_lt_of_le zw2_1 hb3.size
             have y2 := Nat.lt_of_lt_of_le zw2_2 hb3.size
             go_big_quiet_op
             first
               | exact hK
               | (apply Exists.intro
                  refine ⟨fun _ => ?_, ?_⟩
                  · first | with_reducible exact c1 _ _ | with_reducible exact c2 _ _
                  · exact hK)))
      refine wpM_nil ?_
      intro γ w3 hb3 hγ hne
      have g1 := hγ _ (List.mem_cons_self ..)
      have g2 := hγ _ (List.mem_cons_of_mem _ (List.mem_cons_self ..))
      have g3 := hne _ (List.mem_cons_self ..) _ (List.mem_cons_of_mem _ (List.mem_cons_self ..)) (by decide)
      clear hγ hne
      simp [boxWr] at g1 g2 g3
      simp only [List.drop_succ_cons, List.drop_zero, List.foldr]
      generalize γ 6 = p1 at *
      generalize γ 7 = p2 at *
      obtain ⟨gp1, B1⟩ := g1
      obtain ⟨gp2, B2⟩ := g2
      have B1 : Blk w3 p1 25 #[.float .f64 Ea, .float .f64 Eb, .float .f64 Ec, .float .f64 Ed] := B1
      have B2 : Blk w3 p2 25 #[.float .f64 0, .float .f64 0, .float .f64 0, .float .f64 0] := B2
      have g4 : ¬ p2 = p1 := fun e => g3 e.symm
      have r0 := B1.cell 0
      have r1 := B1.cell 1
      have r2 := B1.cell 2
      have r3 := B1.cell 3
      have s0 := B2.cell 0
      have s1 := B2.cell 1
      have s2 := B2.cell 2
      have s3 := B2.cell 3
      have fz1 := B1.frozen
      have fz2 := B2.frozen
      simp at r0 r1 r2 r3 s0 s1 s2 s3
      have hz1 : p1 < w3.heap.size := B1.lt
      have hz2 : p2 < w3.heap.size := B2.lt
      have zp : w.heap.size ≤ p2 := by omega
      unfold ptrAt
      go_upto_region 7 with fail
      refine wp_region_below (by kernel_rfl) (by kernel_rfl) ?_
      repeat (go_big_quiet_step ((first | with_reducible exact c5 _ _ | with_reducible exact c6 _ _)))
      refine wpQuiet_nil ?_
      intro w4 hb4
      have hbb : Below w.heap.size w w4 := by
        (repeat (first | exact Below.refl _ _ | refine b_alloc ?_ _ | refine b_drew ?_ | refine b_drewN ?_ _ | refine b_set ?_ _ (by first | (simp; done) | (simp; omega) | assumption | (dsimp only; omega)) _ | refine b_trans ?_ (by assumption)))
      clear hb1 hb2 hb3 hb4 c1 c2 c5 c6 CF HE CD
      by_cases qx : feq x 0 = true
      · have l := L1.out (.inl qx)
        go_wp2
        go_ret
        exact ⟨by simp [l], hbb⟩
      · rw [Bool.not_eq_true] at qx
        by_cases qy : feq y 0 = true
        · have l := L1.out (.inr qy)
          go_wp2
          go_ret
          exact ⟨by simp [l], hbb⟩
        · rw [Bool.not_eq_true] at qy
          obtain ⟨l, l'⟩ := L2.out qx qy
          go_wp2
          go_ret
          exact ⟨by simp [l, l'], hbb⟩
    · rw [Bool.not_eq_true] at hf
      have cd := dist_none e o hf
      obtain ⟨ef, ea, eb, ec, ed⟩ := e
      obtain ⟨of', oa, ob, oc, od⟩ := o
      simp only at hev hf
      unfold EV.V EV.cells at *
      have CF := Lib.hid cf
      have HE := Lib.hid hev
      have CD := Lib.hid cd
      clear cf hev cd
      go_enter Try.func4, Try.ntmps4
      go_upto_region 1 with fail
      go_wp2_with fail
      refine (CF.out _ _ ?_).mono ?_
      · exact HE.out _ _ _ _ (by simp) (by simp)
      rintro e w1 ⟨rfl, hb1⟩
      obtain ⟨bcw1, bfw1⟩ := bcell hb1
      have zw1_0 : w.heap.size < w1.heap.size := by have := hb1.size; (try simp at this); omega
      have zw1_1 : w.heap.size + 1 < w1.heap.size := by have := hb1.size; (try simp at this); omega
      have zw1_2 : w.heap.size + 1 + 1 < w1.heap.size := by have := hb1.size; (try simp at this); omega
      go_wp2_with fail
      refine (CD.out _).mono ?_
      rintro e w2 ⟨rfl, hb2⟩
      obtain ⟨bcw2, bfw2⟩ := bcell hb2
      have zw2_0 : w.heap.size < w2.heap.size := by have := hb2.size; (try simp at this); omega
      have zw2_1 : w.heap.size + 1 < w2.heap.size := by have := hb2.size; (try simp at this); omega
      have zw2_2 : w.heap.size + 1 + 1 < w2.heap.size := by have := hb2.size; (try simp at this); omega
      cases ef
      · go_wp2
        go_ret
        refine ⟨rfl, ?_⟩
        (repeat (first | exact Below.refl _ _ | refine b_alloc ?_ _ | refine b_drew ?_ | refine b_drewN ?_ _ | refine b_set ?_ _ (by first | (simp; done) | (simp; omega) | assumption | (dsimp only; omega)) _ | refine b_trans ?_ (by assumption)))
      · cases of'
        · go_wp2
          go_ret
          refine ⟨rfl, ?_⟩
          (repeat (first | exact Below.refl _ _ | refine b_alloc ?_ _ | refine b_drew ?_ | refine b_drewN ?_ _ | refine b_set ?_ _ (by first | (simp; done) | (simp; omega) | assumption | (dsimp only; omega)) _ | refine b_trans ?_ (by assumption)))
        · simp at hf
  · rw [Bool.not_eq_true] at q0
    rw [q0] at cf
    obtain ⟨ef, ea, eb, ec, ed⟩ := e
    obtain ⟨of', oa, ob, oc, od⟩ := o
    simp only at hev
    unfold EV.V EV.cells at *
    have CF := Lib.hid cf
    have HE := Lib.hid hev
    clear cf hev
    go_enter Try.func4, Try.ntmps4
    go_upto_region 1 with fail
    go_wp2_with fail
    refine (CF.out _ _ ?_).mono ?_
    · exact HE.out _ _ _ _ (by simp) (by simp)
    rintro e w1 ⟨rfl, hb1⟩
    go_wp2
    go_ret
    refine ⟨rfl, ?_⟩
    (repeat (first | exact Below.refl _ _ | refine b_alloc ?_ _ | refine b_drew ?_ | refine b_drewN ?_ _ | refine b_set ?_ _ (by first | (simp; done) | (simp; omega) | assumption | (dsimp only; omega)) _ | refine b_trans ?_ (by assumption)))
theorem walk (f : Bool) (a b c d : Nat) (f' : Bool) (a' b' c' d' : Nat) (w : World) :
    Calls Try.prog 4 #[.agg #[.bool f, .float .f64 a, .float .f64 b, .float .f64 c, .float .f64 d], .agg #[.bool f', .float .f64 a', .float .f64 b', .float .f64 c', .float .f64 d']] w fun r w' => r = .returned (.bool true) ∧ Below w.heap.size w w' :=
  walk0 ⟨f, a, b, c, d⟩ ⟨f', a', b', c', d'⟩ w
end EnvD
end Go.Proofs.Ytjeofjhcdeginaa
