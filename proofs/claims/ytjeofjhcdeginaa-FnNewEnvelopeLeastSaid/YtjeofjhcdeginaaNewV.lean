/- FnNewEnvelopeLeast: the walk. -/
import Derived.Test.YtjeofjhcdeginaaNewL
namespace Go.Proofs.Ytjeofjhcdeginaa
open Go.RowKit Go.Sort Fl FinW EnvW EnvP
namespace NewE
theorem one_ev (w : World) (t : TypeId) (n B : Nat) (hn : n = w.heap.size) (hB : n < B) (e : EV) : EVs (w.alloc (.cells #[.bool e.f, .float .f64 e.a, .float .f64 e.b, .float .f64 e.c, .float .f64 e.d] t)) B (some ⟨n, 0, none⟩) [e] := by
  subst hn
  intro _
  refine ⟨_, _, rfl, hB, fun i hi => ?_⟩
  have hi' : i < 1 := hi
  match i, hi' with
  | 0, _ => exact ⟨by simp [go_sem], by simp [go_sem], by simp [go_sem], by simp [go_sem], by simp [go_sem]⟩
set_option maxHeartbeats 4000000 in
theorem walk0 (A : Option Addr) (c : Nat) (ps : List (Nat × Nat)) (hs : ∀ p ∈ ps, p.1 < 2^64 ∧ p.2 < 2^64) (o : EV) (ho : o.small) (w : World) (hA : XYs w w.heap.size A ps) :
    Calls Try.prog 3 #[.slice A ps.length c, o.V] w fun r w' => r = .returned (.bool true) ∧ Below w.heap.size w w' := by
  by_cases hbig : ps.length ≤ 2147483647
  · have c1 := fun (w : World) h => elist_any A ps ps.length c rfl hbig hs w h
    by_cases hl : (decide (ps.length ≤ 2000) && eListF ps) = true
    · rw [hl] at c1
      rw [Bool.and_eq_true, decide_eq_true_eq] at hl
      obtain ⟨hlen, hfin⟩ := hl
      by_cases hz : ps = []
      · subst hz
        obtain ⟨f, a, b, c', d⟩ := o
        unfold EV.V EV.cells at *
        have C1 := Lib.hid c1
        clear c1
        go_enter Try.func3, Try.ntmps3
        go_wp2_with fail
        refine (C1.out _ (XYs.below hA (b_alloc (Below.refl _ _) _) (by simp))).mono ?_
        rintro e w1 ⟨rfl, hb1⟩
        go_wp2
        go_ret
        refine ⟨rfl, ?_⟩
        (repeat (first | exact Below.refl _ _ | refine b_alloc ?_ _ | refine b_drew ?_ | refine b_drewN ?_ _ | refine b_set ?_ _ (by first | (simp; done) | (simp; omega) | assumption | (dsimp only; omega)) _ | refine b_trans ?_ (by assumption)))
      · have hpos : ¬ ps.length = 0 := fun h => hz (List.eq_nil_of_length_eq_zero h)
        have cf := fun A (w : World) h => efits_any A [o] 1 1 rfl (by omega) (by intro q hq; simp at hq; subst hq; exact ho) w h
        have hev := fun (w : World) t n B hn hB => one_ev w t n B hn hB o
        by_cases q0 : eFitsF [o] = true
        · rw [q0] at cf
          have l1 := law_has hz hfin
          have l2 := law_cover hz hfin (fits_one q0)
          have hf := (inv_ge hz hfin).f
          have c2 := fun (w : World) h => new_any A ps ps.length c rfl hlen hf w h
          have c3 := fun p (hp : p ∈ ps) => contains_any (geOfF ps) p.1 p.2 (hs p hp).1 (hs p hp).2 (finB_iff.2 (list_fin hfin p hp).1) (finB_iff.2 (list_fin hfin p hp).2)
          have c4 := fun p (hp : p ∈ ps) => contains_any o p.1 p.2 (hs p hp).1 (hs p hp).2 (finB_iff.2 (list_fin hfin p hp).1) (finB_iff.2 (list_fin hfin p hp).2)
          have c5 := covers_any o (geOfF ps)
          rw [l2] at c5
          have c3 : ∀ p, p ∈ ps → ∀ (w : World), Calls Try.prog 8 #[(geOfF ps).V, xyV p.1 p.2] w fun r w' => r = .returned (.bool true) ∧ Below w.heap.size w w' := fun p hp w => by have := c3 p hp w; rwa [l1 p hp] at this
          generalize hF : (fun p : Nat × Nat => eHasF (toG o) p.1 p.2) = F at *
          have c4 : ∀ p, p ∈ ps → ∀ (w : World), Calls Try.prog 8 #[o.V, xyV p.1 p.2] w fun r w' => r = .returned (.bool (F p)) ∧ Below w.heap.size w w' := fun p hp w => by have := c4 p hp w; rw [← hF]; exact this
          clear hF l1 l2 hfin hs ho
          generalize geOfF ps = E at *
          obtain ⟨f, a, b, c', d⟩ := o
          obtain ⟨Ef, Ea, Eb, Ec, Ed⟩ := E
          simp only at hf hev
          subst hf
          unfold EV.V EV.cells xyV at *
          have C1 := Lib.hid c1
          have C2 := Lib.hid c2
          have C3 := Lib.hid c3
          have C4 := Lib.hid c4
          have C5 := Lib.hid c5
          have CF := Lib.hid cf
          have HE := Lib.hid hev
          clear c1 c2 c3 c4 c5 cf hev
          go_enter Try.func3, Try.ntmps3
          go_wp2_with fail
          refine (C1.out _ (XYs.below hA (b_alloc (Below.refl _ _) _) (by simp))).mono ?_
          rintro e w1 ⟨rfl, hb1⟩
          have k1 := (Blk.newAt w 27 #[.bool f, .float .f64 a, .float .f64 b, .float .f64 c', .float .f64 d] rfl).stay hb1
          have hbw1 : Below w.heap.size w w1 := b_trans (b_alloc (Below.refl _ _) _) hb1
          have p0 := k1.cell 0
          have p1 := k1.cell 1
          have p2 := k1.cell 2
          have p3 := k1.cell 3
          have p4 := k1.cell 4
          simp at p0 p1 p2 p3 p4
          go_wp2_with fail
          refine (CF.out _ _ ?_).mono ?_
          · exact HE.out _ _ _ _ (by simp) (by simp)
          rintro e w2 ⟨rfl, hb2⟩
          have hbw2 : Below w.heap.size w w2 := b_trans (b_alloc hbw1 _) hb2
          have k2 := (k1.alloc _).stay hb2
          go_wp2_with fail
          refine (C2.out _ (XYs.below hA hbw2 hbw2.size)).mono ?_
          rintro e w3 ⟨rfl, hb3⟩
          have hbw3 : Below w.heap.size w w3 := b_trans hbw2 hb3
          have k3 := k2.stay hb3
          have hw3 : w.heap.size < w3.heap.size := k3.lt
          clear p0 p1 p2 p3 p4 k1 k2 hb1 hb2 hb3 hbw1 hbw2 C1 C2 CF HE
          go_wp2
          go_loopw [6, 30] (fun al i wr => ∃ (k : Nat), k ≤ ps.length ∧ i = .int .i64 k ∧ al = .bool ((ps.take k).all F) ∧ Blk wr w.heap.size 27 #[.bool f, .float .f64 a, .float .f64 b, .float .f64 c', .float .f64 d] ∧ Blk wr w3.heap.size 27 #[.bool true, .float .f64 Ea, .float .f64 Eb, .float .f64 Ec, .float .f64 Ed] ∧ Below w.heap.size w wr) (fun _ i _ => ps.length - (intOf i).toNat)
          case atStart => exact ⟨0, Nat.zero_le _, rfl, rfl, k3.alloc _, Blk.newAt _ _ _ rfl, b_alloc hbw3 _⟩
          case round =>
            obtain ⟨k, hk, rfl, rfl, kO, kE, hb⟩ := hrel
            have p0 := kO.cell 0
            have p1 := kO.cell 1
            have p2 := kO.cell 2
            have p3 := kO.cell 3
            have p4 := kO.cell 4
            have r0 := kE.cell 0
            have r1 := kE.cell 1
            have r2 := kE.cell 2
            have r3 := kE.cell 3
            have r4 := kE.cell 4
            have zO := kO.lt
            have zE := kE.lt
            simp at p0 p1 p2 p3 p4 r0 r1 r2 r3 r4
            by_cases hlt : k < ps.length
            · obtain ⟨b', off, rfl, hbl, hc⟩ := hA (by intro h; subst h; simp at hlt)
              obtain ⟨c1, c2⟩ := hc k hlt
              rw [← hb.cell (p := ⟨b', _, none⟩) hbl] at c1 c2
              have h1 : (ps.take (k + 1)).all F = ((ps.take k).all F && F ps[k]) := by
                rw [List.take_succ_eq_append_getElem hlt, List.all_append]; simp
              have C3 := C3.out ps[k] (List.getElem_mem _)
              have C4 := C4.out ps[k] (List.getElem_mem _)
              generalize F ps[k] = q at *
              generalize (ps.take k).all F = z at *
              generalize ps[k].1 = x at *
              generalize ps[k].2 = y at *
              have H1 := Lib.hid h1
              have C3 := Lib.hid C3
              have C4 := Lib.hid C4
              clear h1
              go_wp2_with fail
              refine (C3.out _).mono ?_
              rintro e w4 ⟨rfl, hb4⟩
              clear c3 c4 p0 p1 p2 p3 p4 r0 r1 r2 r3 r4
              have jO := (kO.alloc (.cells #[.float .f64 x, .float .f64 y] 32)).stay hb4
              have jE := (kE.alloc (.cells #[.float .f64 x, .float .f64 y] 32)).stay hb4
              have jP := (Blk.newAt wr 32 #[.float .f64 x, .float .f64 y] rfl).stay hb4
              have hbw4 : Below w.heap.size w w4 := b_trans (b_alloc hb _) hb4
              have p0 := jO.cell 0
              have p1 := jO.cell 1
              have p2 := jO.cell 2
              have p3 := jO.cell 3
              have p4 := jO.cell 4
              have p5 := jP.cell 0
              have p6 := jP.cell 1
              simp at p0 p1 p2 p3 p4 p5 p6
              cases z
              · go_wp2_with fail
                go_roundw
                case rel => exact ⟨k + 1, by omega, by go_num, by rw [H1.out, Bool.false_and], jO, jE, hbw4⟩
                case measure => simp [intOf]; omega
              · go_wp2_with fail
                refine (C4.out _).mono ?_
                rintro e w5 ⟨rfl, hb5⟩
                go_wp2_with fail
                go_roundw
                case rel => exact ⟨k + 1, by omega, by go_num, by rw [H1.out, Bool.true_and], jO.stay hb5, jE.stay hb5, b_trans hbw4 hb5⟩
                case measure => simp [intOf]; omega
            · obtain rfl : k = ps.length := by omega
              rw [List.take_length]
              generalize ps.all F = z at *
              go_wp2_with fail
              refine (C5.out _).mono ?_
              rintro e w4 ⟨rfl, hb4⟩
              go_wp2_with fail
              go_ret
              exact ⟨by simp, b_trans hb hb4⟩
        · rw [Bool.not_eq_true] at q0
          rw [q0] at cf
          obtain ⟨f, a, b, c', d⟩ := o
          simp only at hev
          unfold EV.V EV.cells at *
          have C1 := Lib.hid c1
          have CF := Lib.hid cf
          have HE := Lib.hid hev
          clear c1 cf hev
          go_enter Try.func3, Try.ntmps3
          go_wp2_with fail
          refine (C1.out _ (XYs.below hA (b_alloc (Below.refl _ _) _) (by simp))).mono ?_
          rintro e w1 ⟨rfl, hb1⟩
          have k1 := (Blk.newAt w 27 #[.bool f, .float .f64 a, .float .f64 b, .float .f64 c', .float .f64 d] rfl).stay hb1
          have p0 := k1.cell 0
          have p1 := k1.cell 1
          have p2 := k1.cell 2
          have p3 := k1.cell 3
          have p4 := k1.cell 4
          simp at p0 p1 p2 p3 p4
          go_wp2_with fail
          refine (CF.out _ _ ?_).mono ?_
          · exact HE.out _ _ _ _ (by simp) (by simp)
          rintro e w2 ⟨rfl, hb2⟩
          go_wp2
          go_ret
          refine ⟨rfl, ?_⟩
          (repeat (first | exact Below.refl _ _ | refine b_alloc ?_ _ | refine b_drew ?_ | refine b_drewN ?_ _ | refine b_set ?_ _ (by first | (simp; done) | (simp; omega) | assumption | (dsimp only; omega)) _ | refine b_trans ?_ (by assumption)))
    · rw [Bool.not_eq_true] at hl
      rw [hl] at c1
      obtain ⟨f, a, b, c', d⟩ := o
      unfold EV.V EV.cells at *
      have C1 := Lib.hid c1
      clear c1
      go_enter Try.func3, Try.ntmps3
      go_wp2_with fail
      refine (C1.out _ (XYs.below hA (b_alloc (Below.refl _ _) _) (by simp))).mono ?_
      rintro e w1 ⟨rfl, hb1⟩
      go_wp2
      go_ret
      refine ⟨rfl, ?_⟩
      (repeat (first | exact Below.refl _ _ | refine b_alloc ?_ _ | refine b_drew ?_ | refine b_drewN ?_ _ | refine b_set ?_ _ (by first | (simp; done) | (simp; omega) | assumption | (dsimp only; omega)) _ | refine b_trans ?_ (by assumption)))
  · obtain ⟨f, a, b, c', d⟩ := o
    unfold EV.V EV.cells at *
    go_enter Try.func3, Try.ntmps3
    go_wp2
    go_ret
    refine ⟨rfl, ?_⟩
    (repeat (first | exact Below.refl _ _ | refine b_alloc ?_ _ | refine b_drew ?_ | refine b_drewN ?_ _ | refine b_set ?_ _ (by first | (simp; done) | (simp; omega) | assumption | (dsimp only; omega)) _ | refine b_trans ?_ (by assumption)))
theorem walk (A : Option Addr) (c : Nat) (ps : List (Nat × Nat)) (f : Bool) (a b c' d : Nat) (w : World) (hA : XYs w w.heap.size A ps) (hs : ∀ p ∈ ps, p.1 < 2^64 ∧ p.2 < 2^64) (h1 : a < 2^64) (h2 : b < 2^64) (h3 : c' < 2^64) (h4 : d < 2^64) :
    Calls Try.prog 3 #[.slice A ps.length c, .agg #[.bool f, .float .f64 a, .float .f64 b, .float .f64 c', .float .f64 d]] w fun r w' => r = .returned (.bool true) ∧ Below w.heap.size w w' :=
  walk0 A c ps hs ⟨f, a, b, c', d⟩ ⟨h1, h2, h3, h4⟩ w hA
end NewE
end Go.Proofs.Ytjeofjhcdeginaa
