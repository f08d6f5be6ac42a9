/- FnEnvIntersectsPlace: the walk. -/
import Derived.Test.YtaljjmodabjaeaaEnvPW
import Derived.Deep.DeepCutAuto
namespace Go.Proofs.Ytaljjmodabjaeaa
open Go.RowKit Go.Sort Fl FinW EnvW
namespace EnvP
abbrev zBox : Obj := .cells #[.float .f64 0, .float .f64 0, .float .f64 0, .float .f64 0] 34
@[go_sem] theorem field_env (f : Bool) (a b c d : Nat) (w : World) : (Instr.field 39 (.agg #[.bool f, .float .f64 a, .float .f64 b, .float .f64 c, .float .f64 d]) 1).run Try.prog w = .ok (.agg #[.float .f64 a, .float .f64 b, .float .f64 c, .float .f64 d]) w := by kernel_rfl
def boxWr (i mi : Nat) (d s : Tmp) : Wr := { i := i, mi := mi, d := d, s := s, good := fun v => ∃ a b c e, v = .agg #[.float .f64 a, .float .f64 b, .float .f64 c, .float .f64 e], out := fun v => .cells v.cells 34 }
theorem store_box (a : Act) (o : Oper) (d s : Tmp) (ho : o.op = .store 34 (.tmp d) (.tmp s)) (g : Nat) (w : World) (h1 : a.tmps.getD d undef = ptrAt g) (x y z u : Nat) (h2 : a.tmps.getD s undef = .agg #[.float .f64 x, .float .f64 y, .float .f64 z, .float .f64 u]) (hh : Blk w g 34 #[.float .f64 0, .float .f64 0, .float .f64 0, .float .f64 0]) :
    (execOp a.eval o).run Try.prog w = .ok .skip ((((w.setCell ⟨g, 0, none⟩ (.float .f64 x)).setCell ⟨g, 1, none⟩ (.float .f64 y)).setCell ⟨g, 2, none⟩ (.float .f64 z)).setCell ⟨g, 3, none⟩ (.float .f64 u)) := by
  have q0 := hh.cell 0
  have q1 := hh.cell 1
  have q2 := hh.cell 2
  have q3 := hh.cell 3
  have fz := hh.frozen
  simp at q0 q1 q2 q3
  unfold ptrAt at h1
  simp [execOp, ho, Act.eval, h1, h2, go_sem, q0, q1, q2, q3, fz]
theorem boxWr_ok {ops : Array Oper} {ms : List Mk} {n i mi : Nat} {d s : Tmp} {o : Oper} (ho : ops[i]? = some o) (hod : o.dst = none) (hog : o.guard = none) (hop : o.op = .store 34 (.tmp d) (.tmp s)) (hi : i < n) (hm : (⟨mi, d, zBox⟩ : Mk) ∈ ms) (hs : ∀ y ∈ ms, y.d ≠ s) (hw : Region.waitsFor .any ops i mi = true) :
    WrOk Try.prog ops ms n (boxWr i mi d s) := by
  refine ⟨o, ⟨mi, d, zBox⟩, ho, hod, hog, hi, hm, rfl, rfl, hs, hw, fun a g w h1 hg hh => ?_⟩
  obtain ⟨x, y, z, u, h2⟩ := hg
  have hB : Blk w g 34 #[.float .f64 0, .float .f64 0, .float .f64 0, .float .f64 0] := hh
  refine ⟨.skip, _, store_box a o d s hop g w h1 x y z u h2 hB, .inl rfl, rfl, rfl, rfl, by simp [World.setCell], fun k hk => ?_, ?_⟩
  · rw [Below.heap_setCell _ _ _ _ hk, Below.heap_setCell _ _ _ _ hk, Below.heap_setCell _ _ _ _ hk, Below.heap_setCell _ _ _ _ hk]
  · have := (((hB.set_ 0 (.float .f64 x)).set_ 1 (.float .f64 y)).set_ 2 (.float .f64 z)).set_ 3 (.float .f64 u)
    show _ = some (Obj.cells (Value.cells (a.tmps.getD s undef)) _)
    rw [show a.tmps.getD s undef = _ from h2]
    exact this
set_option maxHeartbeats 4000000 in
theorem walk0 (e o : EV) (x y : Nat) (he : e.small) (ho : o.small) (w : World) : Calls Try.prog 6 #[e.V, o.V, xyV x y] w fun r w' => r = .returned (.bool true) ∧ Below w.heap.size w w' := by
  have cf := fun A (w : World) h => efits_any A [e, o] 2 2 rfl (by omega) (by intro q hq; simp at hq; rcases hq with rfl | rfl <;> assumption) w h
  by_cases q0 : eFitsF [e, o] = true
  · obtain ⟨f1, f2⟩ := fits_fin q0
    have l1 := law1 f1 f2 x y
    have l2 := law2 f1 f2
    obtain ⟨n1, n2⟩ := mk_num f1
    obtain ⟨n3, n4⟩ := mk_num f2
    rw [q0] at cf
    have k1 := fun w => emade_any e w
    have k2 := fun w => emade_any o w
    rw [show eOfF (eCornersF e) = mk e from rfl] at k1
    rw [show eOfF (eCornersF o) = mk o from rfl] at k2
    have c1 := fun (w : World) => Calls.inClass (w := w) k1
    have c2 := fun (w : World) => Calls.inClass (w := w) k2
    have c3 := fun (w : World) => Calls.inClass (w := w) (meet_any e o)
    have c4 := fun (w : World) => Calls.inClass (w := w) (ehas_any (mk e) x y)
    have c5 := fun (w : World) => Calls.inClass (w := w) (ehas_any (mk o) x y)
    have c6 := fun (w : World) => Calls.inClass (w := w) (ehas_any (mk e) (bmax (mk e).a (mk o).a) (bmax (mk e).b (mk o).b))
    have c7 := fun (w : World) => Calls.inClass (w := w) (ehas_any (mk o) (bmax (mk e).a (mk o).a) (bmax (mk e).b (mk o).b))
    have hev := fun (w : World) t n B hn hB => two_evs w t n B hn hB e o
    rw [l2] at c3 l1
    clear l2 f1 f2 he ho q0 k1 k2
    generalize eHasF (mk e) x y = h1 at *
    generalize eHasF (mk o) x y = h2 at *
    generalize eHasF (mk e) (bmax (mk e).a (mk o).a) (bmax (mk e).b (mk o).b) = h3 at *
    generalize eHasF (mk o) (bmax (mk e).a (mk o).a) (bmax (mk e).b (mk o).b) = h4 at *
    generalize mk e = E at *
    generalize mk o = O at *
    obtain ⟨ef, ea, eb, ec, ed⟩ := e
    obtain ⟨of', oa, ob, oc, od⟩ := o
    obtain ⟨Ef, Ea, Eb, Ec, Ed⟩ := E
    obtain ⟨Of, Oa, Ob, Oc, Od⟩ := O
    simp only at n1 n2 n3 n4 c6 c7 hev
    unfold EV.V EV.cells xyV at *
    have CF := Lib.hid cf
    have L1 := Lib.hid l1
    have HE := Lib.hid hev
    clear cf l1 hev
    go_enter Try.func6, Try.ntmps6
    go_upto_region 1 with fail
    go_wp2_with fail
    refine (CF.out _ _ ?_).mono ?_
    · exact HE.out _ _ _ _ (by simp) (by simp)
    rintro e w1 ⟨rfl, hb1⟩
    obtain ⟨bcw1, bfw1⟩ := bcell hb1
    have zw1_0 : w.heap.size < w1.heap.size := by have := hb1.size; (try simp at this); omega
    have zw1_1 : w.heap.size + 1 < w1.heap.size := by have := hb1.size; (try simp at this); omega
    have zw1_2 : w.heap.size + 1 + 1 < w1.heap.size := by have := hb1.size; (try simp at this); omega
    go_upto_region 3 with fail
    have d1 : (h3 && h4) = true ∨ (h1 && h2) = false := by
      cases h1 <;> cases h2 <;> simp
      exact (by simpa using L1.out rfl rfl)
    go_cut [30] (fun s wx => s = .bool false ∧ Below w1.heap.size w1 wx)
    case first =>
      cases h1
      ·
        refine wp_region_below (by kernel_rfl) (by kernel_rfl) ?_
        repeat (go_big_quiet_step ((first | with_reducible exact c1 _ _ | with_reducible exact c4 _ _)))
        refine wpQuiet_nil ?_
        intro w2 hb2
        go_wp2_with fail
        go_meet
        exact ⟨rfl, hb2⟩
      · cases h2
        ·
          refine wp_region_below (by kernel_rfl) (by kernel_rfl) ?_
          repeat (go_big_quiet_step ((first | with_reducible exact c1 _ _ | with_reducible exact c2 _ _ | with_reducible exact c4 _ _ | with_reducible exact c5 _ _)))
          refine wpQuiet_nil ?_
          intro w2 hb2
          go_wp2_with fail
          go_meet
          exact ⟨rfl, hb2⟩
        · rw [d1.resolve_right (by simp)] at c3
          refine wp_region_below (by kernel_rfl) (by kernel_rfl) ?_
          repeat (go_big_quiet_step ((first | with_reducible exact c1 _ _ | with_reducible exact c2 _ _ | with_reducible exact c3 _ _ | with_reducible exact c4 _ _ | with_reducible exact c5 _ _)))
          refine wpQuiet_nil ?_
          intro w2 hb2
          go_wp2_with fail
          go_meet
          exact ⟨rfl, hb2⟩
    case rest =>
      obtain ⟨rfl, hb2⟩ := hcut
      obtain ⟨w2, hw2⟩ : ∃ w2, w2 = wc := ⟨_, rfl⟩
      subst hw2
      obtain ⟨bcw2, bfw2⟩ := bcell hb2
      have zw2_0 : w.heap.size < w2.heap.size := by have := hb2.size; (try simp at this); omega
      have zw2_1 : w.heap.size + 1 < w2.heap.size := by have := hb2.size; (try simp at this); omega
      have zw2_2 : w.heap.size + 1 + 1 < w2.heap.size := by have := hb2.size; (try simp at this); omega
      go_upto_region 5 with fail
      refine wp_region_makers [⟨6, 7, zBox⟩, ⟨7, 8, zBox⟩] [boxWr 8 6 7 33] 9 (by kernel_rfl) (by kernel_rfl) ?hok ?hwok ?hlk (by kernel_rfl) (by decide) (by decide) (by decide) (by decide) ?hsz ?_
      case hok =>
        intro m hm
        simp only [List.mem_cons, List.not_mem_nil, or_false] at hm
        rcases hm with rfl | rfl
        · exact ⟨_, rfl, rfl, rfl, by decide, fun ev w => by kernel_rfl⟩
        · exact ⟨_, rfl, rfl, rfl, by decide, fun ev w => by kernel_rfl⟩
      case hwok =>
        intro x hx
        simp only [List.mem_cons, List.not_mem_nil, or_false] at hx
        subst hx
        exact boxWr_ok rfl rfl rfl rfl (by decide) (by simp) (by decide) (by kernel_rfl)
      case hlk =>
        intro x hx
        simp only [List.mem_cons, List.not_mem_nil, or_false] at hx
        subst hx
        exact ⟨_, rfl, rfl, by decide⟩
      case hsz =>
        intro m hm
        simp only [List.mem_cons, List.not_mem_nil, or_false] at hm
        rcases hm with rfl | rfl <;> simp
      simp only [List.take_succ_cons, List.take_zero]
      repeat (first
        | refine wpM_skip rfl ?_
        | refine wpM_write rfl rfl (by intro z hz e; simp only [List.mem_cons, List.not_mem_nil, or_false] at hz; subst hz; exact ⟨_, _, _, _, rfl⟩) ?_
        | (apply wpM_want rfl rfl rfl _ rfl (by simp)
           focus
             intro w3 hb3 K hK
             obtain ⟨bc3, bf3⟩ := bcell hb3
             have y0 := Nat.lt_of_lt_of_le zw2_0 hb3.size
             have y1 := Nat.lt_of_lt_of_le zw2_1 hb3.size
             have y2 := Nat.lt_of_lt_of_le zw2_2 hb3.size
             go_big_quiet_op
             first
               | exact hK
               | (apply Exists.intro
                  refine ⟨fun _ => ?_, ?_⟩
                  · first | with_reducible exact c1 _ _ | with_reducible exact c2 _ _
                  · exact hK)))
      refine wpM_nil ?_
      intro γ w3 hb3 hγ hne
      have g1 := hγ _ (List.mem_cons_self ..)
      have g2 := hγ _ (List.mem_cons_of_mem _ (List.mem_cons_self ..))
      have g3 := hne _ (List.mem_cons_self ..) _ (List.mem_cons_of_mem _ (List.mem_cons_self ..)) (by decide)
      clear hγ hne
      simp [boxWr] at g1 g2 g3
      simp only [List.drop_succ_cons, List.drop_zero, List.foldr]
      generalize γ 6 = p1 at *
      generalize γ 7 = p2 at *
      obtain ⟨gp1, B1⟩ := g1
      obtain ⟨gp2, B2⟩ := g2
      have B1 : Blk w3 p1 34 #[.float .f64 Ea, .float .f64 Eb, .float .f64 Ec, .float .f64 Ed] := B1
      have B2 : Blk w3 p2 34 #[.float .f64 0, .float .f64 0, .float .f64 0, .float .f64 0] := B2
      have g4 : ¬ p2 = p1 := fun e => g3 e.symm
      have r0 := B1.cell 0
      have r1 := B1.cell 1
      have s0 := B2.cell 0
      have s1 := B2.cell 1
      have s2 := B2.cell 2
      have s3 := B2.cell 3
      have fz1 := B1.frozen
      have fz2 := B2.frozen
      simp at r0 r1 s0 s1 s2 s3
      have hz2 : p2 < w3.heap.size := B2.lt
      obtain ⟨bcw3, bfw3⟩ := bcell hb3
      have zw3_0 : w.heap.size < w3.heap.size := by have := hb3.size; (try simp at this); omega
      have zw3_1 : w.heap.size + 1 < w3.heap.size := by have := hb3.size; (try simp at this); omega
      have zw3_2 : w.heap.size + 1 + 1 < w3.heap.size := by have := hb3.size; (try simp at this); omega
      have zp : w.heap.size ≤ p2 := by omega
      unfold ptrAt
      go_upto_region 7 with fail
      have e0 : ¬ w.heap.size = p2 := by omega
      have e1 : ¬ w.heap.size + 1 = p2 := by omega
      have x0 : w.heap.size < w3.heap.size + 1 := by omega
      have x1 : w.heap.size + 1 < w3.heap.size + 1 := by omega
      cases h3
      ·
        refine wp_region_below (by kernel_rfl) (by kernel_rfl) ?_
        repeat (go_big_quiet_step ((first | with_reducible exact c1 _ _ | with_reducible exact c2 _ _ | with_reducible exact c3 _ _ | with_reducible exact c6 _ _ | with_reducible exact c7 _ _)))
        refine wpQuiet_nil ?_
        intro w4 hb4
        go_wp2
        go_ret
        refine ⟨rfl, ?_⟩
        (repeat (first | exact Below.refl _ _ | refine b_alloc ?_ _ | refine b_drew ?_ | refine b_drewN ?_ _ | refine b_set ?_ _ (by first | (simp; done) | (simp; omega) | assumption | (dsimp only; omega)) _ | refine b_trans ?_ (by assumption)))
      · cases h4
        ·
          refine wp_region_below (by kernel_rfl) (by kernel_rfl) ?_
          repeat (go_big_quiet_step ((first | with_reducible exact c1 _ _ | with_reducible exact c2 _ _ | with_reducible exact c3 _ _ | with_reducible exact c6 _ _ | with_reducible exact c7 _ _)))
          refine wpQuiet_nil ?_
          intro w4 hb4
          go_wp2
          go_ret
          refine ⟨rfl, ?_⟩
          (repeat (first | exact Below.refl _ _ | refine b_alloc ?_ _ | refine b_drew ?_ | refine b_drewN ?_ _ | refine b_set ?_ _ (by first | (simp; done) | (simp; omega) | assumption | (dsimp only; omega)) _ | refine b_trans ?_ (by assumption)))
        ·
          refine wp_region_below (by kernel_rfl) (by kernel_rfl) ?_
          repeat (go_big_quiet_step ((first | with_reducible exact c1 _ _ | with_reducible exact c2 _ _ | with_reducible exact c3 _ _ | with_reducible exact c6 _ _ | with_reducible exact c7 _ _)))
          refine wpQuiet_nil ?_
          intro w4 hb4
          go_wp2
          go_ret
          refine ⟨rfl, ?_⟩
          (repeat (first | exact Below.refl _ _ | refine b_alloc ?_ _ | refine b_drew ?_ | refine b_drewN ?_ _ | refine b_set ?_ _ (by first | (simp; done) | (simp; omega) | assumption | (dsimp only; omega)) _ | refine b_trans ?_ (by assumption)))
  · rw [Bool.not_eq_true] at q0
    rw [q0] at cf
    have hev := fun (w : World) t n B hn hB => two_evs w t n B hn hB e o
    obtain ⟨ef, ea, eb, ec, ed⟩ := e
    obtain ⟨of', oa, ob, oc, od⟩ := o
    simp only at hev
    unfold EV.V EV.cells xyV at *
    have CF := Lib.hid cf
    have HE := Lib.hid hev
    clear cf hev
    go_enter Try.func6, Try.ntmps6
    go_upto_region 1 with fail
    go_wp2_with fail
    refine (CF.out _ _ ?_).mono ?_
    · exact HE.out _ _ _ _ (by simp) (by simp)
    rintro e w1 ⟨rfl, hb1⟩
    go_wp2
    go_ret
    refine ⟨rfl, ?_⟩
    (repeat (first | exact Below.refl _ _ | refine b_alloc ?_ _ | refine b_drew ?_ | refine b_drewN ?_ _ | refine b_set ?_ _ (by first | (simp; done) | (simp; omega) | assumption | (dsimp only; omega)) _ | refine b_trans ?_ (by assumption)))
theorem walk (f : Bool) (a b c d : Nat) (f' : Bool) (a' b' c' d' x y : Nat) (w : World) (h1 : a < 2^64) (h2 : b < 2^64) (h3 : c < 2^64) (h4 : d < 2^64) (h5 : a' < 2^64) (h6 : b' < 2^64) (h7 : c' < 2^64) (h8 : d' < 2^64) :
    Calls Try.prog 6 #[.agg #[.bool f, .float .f64 a, .float .f64 b, .float .f64 c, .float .f64 d], .agg #[.bool f', .float .f64 a', .float .f64 b', .float .f64 c', .float .f64 d'], xyV x y] w fun r w' => r = .returned (.bool true) ∧ Below w.heap.size w w' :=
  walk0 ⟨f, a, b, c, d⟩ ⟨f', a', b', c', d'⟩ x y ⟨h1, h2, h3, h4⟩ ⟨h5, h6, h7, h8⟩ w
end EnvP
end Go.Proofs.Ytaljjmodabjaeaa
