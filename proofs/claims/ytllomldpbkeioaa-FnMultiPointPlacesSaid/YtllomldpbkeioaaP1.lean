/- Walks: points. -/
import Derived.Test.YtllomldpbkeioaaG9
import Derived.BigRegion
namespace Go.Proofs.Ytllomldpbkeioaa
open Go.RowKit Go.Sort
namespace Geo
set_option linter.unusedSimpArgs false
/-- a point's cells -/
def pCells (p : P4) (d : Nat) (f : Bool) : Array Value := #[.float .f64 p.x, .float .f64 p.y, .float .f64 p.z, .float .f64 p.m, .int .u8 d, .bool f]
def PV (p : P4) (d : Nat) (f : Bool) : Value := .agg (pCells p d f)
def p40 : P4 := ⟨0, 0, 0, 0⟩
theorem emptypoint_any (d : Nat) (w : World) : Calls Try.prog 73 #[.int .u8 d] w fun r w' => r = .returned (PV p40 d false) ∧ Below w.heap.size w w' := by
  unfold PV pCells p40
  go_enter Try.func73, Try.ntmps73
  go_wp2
  refine bodyPost_ret (v := .agg #[.float .f64 0, .float .f64 0, .float .f64 0, .float .f64 0, .int .u8 d, .bool false]) (by simp [results, Try.results73, go_sem]) rfl ⟨rfl, ?_⟩
  (repeat (first | exact Below.refl _ _ | refine b_alloc ?_ _ | refine b_drew ?_ | refine b_drewN ?_ _ | refine b_set ?_ _ (by first | (simp; done) | (simp; omega) | assumption | (dsimp only; omega)) _ | refine b_trans ?_ (by assumption)))
theorem newpoint_any (p : P4) (d : Nat) (w : World) : Calls Try.prog 74 #[CV d p] w fun r w' => r = .returned (PV p d true) ∧ Below w.heap.size w w' := by
  unfold PV pCells CV
  go_enter Try.func74, Try.ntmps74
  go_wp2
  refine bodyPost_ret (v := .agg #[.float .f64 p.x, .float .f64 p.y, .float .f64 p.z, .float .f64 p.m, .int .u8 d, .bool true]) (by simp [results, Try.results74, go_sem]) rfl ⟨rfl, ?_⟩
  (repeat (first | exact Below.refl _ _ | refine b_alloc ?_ _ | refine b_drew ?_ | refine b_drewN ?_ _ | refine b_set ?_ _ (by first | (simp; done) | (simp; omega) | assumption | (dsimp only; omega)) _ | refine b_trans ?_ (by assumption)))
theorem pctype_any (p : P4) (d : Nat) (f : Bool) (w : World) : Calls Try.prog 76 #[PV p d f] w fun r w' => r = .returned (.int .u8 d) ∧ Below w.heap.size w w' := by
  unfold PV pCells
  go_enter Try.func76, Try.ntmps76
  go_wp2
  go_ret
  refine ⟨rfl, ?_⟩
  (repeat (first | exact Below.refl _ _ | refine b_alloc ?_ _ | refine b_drew ?_ | refine b_drewN ?_ _ | refine b_set ?_ _ (by first | (simp; done) | (simp; omega) | assumption | (dsimp only; omega)) _ | refine b_trans ?_ (by assumption)))
theorem pcoords_any (p : P4) (d : Nat) (f : Bool) (w : World) : Calls Try.prog 66 #[PV p d f] w fun r w' => r = .returned (.tuple #[CV d p, .bool f]) ∧ Below w.heap.size w w' := by
  unfold PV pCells CV
  go_enter Try.func66, Try.ntmps66
  go_wp2
  go_region
  all_goals go_wp2
  all_goals refine bodyPost_ret (v := .tuple #[.agg #[.float .f64 p.x, .float .f64 p.y, .float .f64 p.z, .float .f64 p.m, .int .u8 d], .bool f]) (by simp [results, Try.results66, go_sem]) rfl ⟨rfl, ?_⟩
  all_goals (repeat (first | exact Below.refl _ _ | refine b_alloc ?_ _ | refine b_drew ?_ | refine b_drewN ?_ _ | refine b_set ?_ _ (by first | (simp; done) | (simp; omega) | assumption | (dsimp only; omega)) _ | refine b_trans ?_ (by assumption)))
/-- a point under another type -/
def pForce (p : P4) (d d' : Nat) : P4 := ⟨p.x, p.y, if (d' % 2 = 1) = (d % 2 = 1) then p.z else 0, if (d' / 2 % 2 = 1) = (d / 2 % 2 = 1) then p.m else 0⟩
set_option maxHeartbeats 4000000 in
theorem pforce_any (p : P4) (d d' : Nat) (hd : d < 4) (hd' : d' < 4) (f : Bool) (w : World) : Calls Try.prog 82 #[PV p d f, .int .u8 d'] w fun r w' => r = .returned (PV (if f then pForce p d d' else p40) d' f) ∧ Below w.heap.size w w' := by
  cases f
  · have s1 := fun w => emptypoint_any d' w
    simp only [Bool.false_eq_true, if_false]
    unfold PV pCells p40 at *
    have S1 := Lib.hid s1
    clear s1
    have hb0 := b_alloc (b_alloc (Below.refl w.heap.size w) (.cells #[.float .f64 p.x, .float .f64 p.y, .float .f64 p.z, .float .f64 p.m, .int .u8 d, .bool false] 100)) (.cells #[.float .f64 0, .float .f64 0, .float .f64 0, .float .f64 0, .int .u8 0, .bool false] 100)
    have k1 := Blk.newAt (w.alloc (.cells #[.float .f64 p.x, .float .f64 p.y, .float .f64 p.z, .float .f64 p.m, .int .u8 d, .bool false] 100)) 100 #[.float .f64 0, .float .f64 0, .float .f64 0, .float .f64 0, .int .u8 0, .bool false] (n := w.heap.size + 1) (by simp)
    go_enter Try.func82, Try.ntmps82
    go_wp2_with fail
    refine (S1.out _).mono ?_
    rintro e w1 ⟨rfl, hb1⟩
    have k1 := k1.stay hb1
    have hB := b_trans hb0 hb1
    have p0 := k1.cell 0
    have p1 := k1.cell 1
    have p2 := k1.cell 2
    have p3 := k1.cell 3
    have p4 := k1.cell 4
    have p5 := k1.cell 5
    have fz := k1.frozen
    simp at p0 p1 p2 p3 p4 p5
    clear S1
    go_wp2
    refine bodyPost_ret (v := .agg #[.float .f64 0, .float .f64 0, .float .f64 0, .float .f64 0, .int .u8 d', .bool false]) (by simp [results, Try.results82, go_sem, p0, p1, p2, p3, p4, p5]) rfl ⟨rfl, ?_⟩
    repeat (first | exact hB | refine b_set ?_ _ (by first | (simp; done) | (simp; omega)) _)
  · have i3 := fun (w : World) => Calls.inClassEq (w := w) (is3d_any d hd)
    have i3' := fun (w : World) => Calls.inClassEq (w := w) (is3d_any d' hd')
    have im := fun (w : World) => Calls.inClassEq (w := w) (ismeas_any d hd)
    have im' := fun (w : World) => Calls.inClassEq (w := w) (ismeas_any d' hd')
    simp only [if_true]
    unfold PV pCells pForce
    obtain ⟨x, y, z, m⟩ := p
    rcases four hd with rfl | rfl | rfl | rfl
    · rcases four hd' with rfl | rfl | rfl | rfl
      · simp only [c0, c1, c2, c3, c4, wd0, wd1, wd2, wd3] at *
        simp at i3 i3' im im'
        simp
        have hb0 := b_alloc (b_alloc (Below.refl w.heap.size w) (.cells #[.float .f64 x, .float .f64 y, .float .f64 z, .float .f64 m, .int .u8 0, .bool true] 100)) (.cells #[.float .f64 0, .float .f64 0, .float .f64 0, .float .f64 0, .int .u8 0, .bool false] 100)
        have kA := (Blk.newAt w 100 #[.float .f64 x, .float .f64 y, .float .f64 z, .float .f64 m, .int .u8 0, .bool true] rfl).alloc (.cells #[.float .f64 0, .float .f64 0, .float .f64 0, .float .f64 0, .int .u8 0, .bool false] 100)
        have kR := Blk.newAt (w.alloc (.cells #[.float .f64 x, .float .f64 y, .float .f64 z, .float .f64 m, .int .u8 0, .bool true] 100)) 100 #[.float .f64 0, .float .f64 0, .float .f64 0, .float .f64 0, .int .u8 0, .bool false] (n := w.heap.size + 1) (by simp)
        go_enter Try.func82, Try.ntmps82
        go_wp2
        refine wp_region_below (by kernel_rfl) (by kernel_rfl) ?_
        repeat (go_big_quiet_step ((first | with_reducible exact i3 _ _ | with_reducible exact i3' _ _)))
        refine wpQuiet_nil ?_
        intro w1 hb1
        have kA := kA.stay hb1
        have kR := kR.stay hb1
        have hB1 := b_trans hb0 hb1
        have p0 := kA.cell 0
        have p1 := kA.cell 1
        have p2 := kA.cell 2
        have p3 := kA.cell 3
        have p4 := kA.cell 4
        have p5 := kA.cell 5
        have fA := kA.frozen
        have zA := kA.lt
        simp at p0 p1 p2 p3 p4 p5
        clear hb1 i3 i3'
        go_wp2
        refine wp_region_below (by kernel_rfl) (by kernel_rfl) ?_
        repeat (go_big_quiet_step ((first | with_reducible exact im _ _ | with_reducible exact im' _ _)))
        refine wpQuiet_nil ?_
        intro w2 hb2
        have kA2 := (kA).stay hb2
        have kR2 := (kR).stay hb2
        have hB2 := b_trans (hB1) hb2
        have q0 := kA2.cell 0
        have q1 := kA2.cell 1
        have q2 := kA2.cell 2
        have q3 := kA2.cell 3
        have q4 := kA2.cell 4
        have q5 := kA2.cell 5
        have r0 := kR2.cell 0
        have r1 := kR2.cell 1
        have r2 := kR2.cell 2
        have r3 := kR2.cell 3
        have r4 := kR2.cell 4
        have r5 := kR2.cell 5
        have fA2 := kA2.frozen
        have fR2 := kR2.frozen
        have zA2 := kA2.lt
        have zR2 := kR2.lt
        simp at q0 q1 q2 q3 q4 q5 r0 r1 r2 r3 r4 r5
        clear p0 p1 p2 p3 p4 p5 fA hb2 im im' kA kR
        go_wp2
        refine bodyPost_ret (v := .agg #[.float .f64 x, .float .f64 y, .float .f64 z, .float .f64 m, .int .u8 0, .bool true]) (by simp [results, Try.results82, go_sem, r0, r1, r2, r3, r4, r5]) rfl ⟨rfl, ?_⟩
        repeat (first | with_reducible exact hB2 | with_reducible refine b_set ?_ _ (by first | (simp; done) | (simp; omega)) _)
      · simp only [c0, c1, c2, c3, c4, wd0, wd1, wd2, wd3] at *
        simp at i3 i3' im im'
        simp
        have hb0 := b_alloc (b_alloc (Below.refl w.heap.size w) (.cells #[.float .f64 x, .float .f64 y, .float .f64 z, .float .f64 m, .int .u8 0, .bool true] 100)) (.cells #[.float .f64 0, .float .f64 0, .float .f64 0, .float .f64 0, .int .u8 0, .bool false] 100)
        have kA := (Blk.newAt w 100 #[.float .f64 x, .float .f64 y, .float .f64 z, .float .f64 m, .int .u8 0, .bool true] rfl).alloc (.cells #[.float .f64 0, .float .f64 0, .float .f64 0, .float .f64 0, .int .u8 0, .bool false] 100)
        have kR := Blk.newAt (w.alloc (.cells #[.float .f64 x, .float .f64 y, .float .f64 z, .float .f64 m, .int .u8 0, .bool true] 100)) 100 #[.float .f64 0, .float .f64 0, .float .f64 0, .float .f64 0, .int .u8 0, .bool false] (n := w.heap.size + 1) (by simp)
        go_enter Try.func82, Try.ntmps82
        go_wp2
        refine wp_region_below (by kernel_rfl) (by kernel_rfl) ?_
        repeat (go_big_quiet_step ((first | with_reducible exact i3 _ _ | with_reducible exact i3' _ _)))
        refine wpQuiet_nil ?_
        intro w1 hb1
        have kA := kA.stay hb1
        have kR := kR.stay hb1
        have hB1 := b_trans hb0 hb1
        have p0 := kA.cell 0
        have p1 := kA.cell 1
        have p2 := kA.cell 2
        have p3 := kA.cell 3
        have p4 := kA.cell 4
        have p5 := kA.cell 5
        have fA := kA.frozen
        have zA := kA.lt
        simp at p0 p1 p2 p3 p4 p5
        clear hb1 i3 i3'
        go_wp2
        refine wp_region_below (by kernel_rfl) (by kernel_rfl) ?_
        repeat (go_big_quiet_step ((first | with_reducible exact im _ _ | with_reducible exact im' _ _)))
        refine wpQuiet_nil ?_
        intro w2 hb2
        have kA2 := (kA.set_ 2 (.float .f64 0)).stay hb2
        have kR2 := (kR.far (p := ⟨w.heap.size, 2, none⟩) (by simp) (.float .f64 0)).stay hb2
        have hB2 := b_trans (b_set hB1 ⟨w.heap.size, 2, none⟩ (by simp) (.float .f64 0)) hb2
        have q0 := kA2.cell 0
        have q1 := kA2.cell 1
        have q2 := kA2.cell 2
        have q3 := kA2.cell 3
        have q4 := kA2.cell 4
        have q5 := kA2.cell 5
        have r0 := kR2.cell 0
        have r1 := kR2.cell 1
        have r2 := kR2.cell 2
        have r3 := kR2.cell 3
        have r4 := kR2.cell 4
        have r5 := kR2.cell 5
        have fA2 := kA2.frozen
        have fR2 := kR2.frozen
        have zA2 := kA2.lt
        have zR2 := kR2.lt
        simp at q0 q1 q2 q3 q4 q5 r0 r1 r2 r3 r4 r5
        clear p0 p1 p2 p3 p4 p5 fA hb2 im im' kA kR
        go_wp2
        refine bodyPost_ret (v := .agg #[.float .f64 x, .float .f64 y, .float .f64 0, .float .f64 m, .int .u8 1, .bool true]) (by simp [results, Try.results82, go_sem, r0, r1, r2, r3, r4, r5]) rfl ⟨rfl, ?_⟩
        repeat (first | with_reducible exact hB2 | with_reducible refine b_set ?_ _ (by first | (simp; done) | (simp; omega)) _)
      · simp only [c0, c1, c2, c3, c4, wd0, wd1, wd2, wd3] at *
        simp at i3 i3' im im'
        simp
        have hb0 := b_alloc (b_alloc (Below.refl w.heap.size w) (.cells #[.float .f64 x, .float .f64 y, .float .f64 z, .float .f64 m, .int .u8 0, .bool true] 100)) (.cells #[.float .f64 0, .float .f64 0, .float .f64 0, .float .f64 0, .int .u8 0, .bool false] 100)
        have kA := (Blk.newAt w 100 #[.float .f64 x, .float .f64 y, .float .f64 z, .float .f64 m, .int .u8 0, .bool true] rfl).alloc (.cells #[.float .f64 0, .float .f64 0, .float .f64 0, .float .f64 0, .int .u8 0, .bool false] 100)
        have kR := Blk.newAt (w.alloc (.cells #[.float .f64 x, .float .f64 y, .float .f64 z, .float .f64 m, .int .u8 0, .bool true] 100)) 100 #[.float .f64 0, .float .f64 0, .float .f64 0, .float .f64 0, .int .u8 0, .bool false] (n := w.heap.size + 1) (by simp)
        go_enter Try.func82, Try.ntmps82
        go_wp2
        refine wp_region_below (by kernel_rfl) (by kernel_rfl) ?_
        repeat (go_big_quiet_step ((first | with_reducible exact i3 _ _ | with_reducible exact i3' _ _)))
        refine wpQuiet_nil ?_
        intro w1 hb1
        have kA := kA.stay hb1
        have kR := kR.stay hb1
        have hB1 := b_trans hb0 hb1
        have p0 := kA.cell 0
        have p1 := kA.cell 1
        have p2 := kA.cell 2
        have p3 := kA.cell 3
        have p4 := kA.cell 4
        have p5 := kA.cell 5
        have fA := kA.frozen
        have zA := kA.lt
        simp at p0 p1 p2 p3 p4 p5
        clear hb1 i3 i3'
        go_wp2
        refine wp_region_below (by kernel_rfl) (by kernel_rfl) ?_
        repeat (go_big_quiet_step ((first | with_reducible exact im _ _ | with_reducible exact im' _ _)))
        refine wpQuiet_nil ?_
        intro w2 hb2
        have kA2 := (kA).stay hb2
        have kR2 := (kR).stay hb2
        have hB2 := b_trans (hB1) hb2
        have q0 := kA2.cell 0
        have q1 := kA2.cell 1
        have q2 := kA2.cell 2
        have q3 := kA2.cell 3
        have q4 := kA2.cell 4
        have q5 := kA2.cell 5
        have r0 := kR2.cell 0
        have r1 := kR2.cell 1
        have r2 := kR2.cell 2
        have r3 := kR2.cell 3
        have r4 := kR2.cell 4
        have r5 := kR2.cell 5
        have fA2 := kA2.frozen
        have fR2 := kR2.frozen
        have zA2 := kA2.lt
        have zR2 := kR2.lt
        simp at q0 q1 q2 q3 q4 q5 r0 r1 r2 r3 r4 r5
        clear p0 p1 p2 p3 p4 p5 fA hb2 im im' kA kR
        go_wp2
        refine bodyPost_ret (v := .agg #[.float .f64 x, .float .f64 y, .float .f64 z, .float .f64 0, .int .u8 2, .bool true]) (by simp [results, Try.results82, go_sem, r0, r1, r2, r3, r4, r5]) rfl ⟨rfl, ?_⟩
        repeat (first | with_reducible exact hB2 | with_reducible refine b_set ?_ _ (by first | (simp; done) | (simp; omega)) _)
      · simp only [c0, c1, c2, c3, c4, wd0, wd1, wd2, wd3] at *
        simp at i3 i3' im im'
        simp
        have hb0 := b_alloc (b_alloc (Below.refl w.heap.size w) (.cells #[.float .f64 x, .float .f64 y, .float .f64 z, .float .f64 m, .int .u8 0, .bool true] 100)) (.cells #[.float .f64 0, .float .f64 0, .float .f64 0, .float .f64 0, .int .u8 0, .bool false] 100)
        have kA := (Blk.newAt w 100 #[.float .f64 x, .float .f64 y, .float .f64 z, .float .f64 m, .int .u8 0, .bool true] rfl).alloc (.cells #[.float .f64 0, .float .f64 0, .float .f64 0, .float .f64 0, .int .u8 0, .bool false] 100)
        have kR := Blk.newAt (w.alloc (.cells #[.float .f64 x, .float .f64 y, .float .f64 z, .float .f64 m, .int .u8 0, .bool true] 100)) 100 #[.float .f64 0, .float .f64 0, .float .f64 0, .float .f64 0, .int .u8 0, .bool false] (n := w.heap.size + 1) (by simp)
        go_enter Try.func82, Try.ntmps82
        go_wp2
        refine wp_region_below (by kernel_rfl) (by kernel_rfl) ?_
        repeat (go_big_quiet_step ((first | with_reducible exact i3 _ _ | with_reducible exact i3' _ _)))
        refine wpQuiet_nil ?_
        intro w1 hb1
        have kA := kA.stay hb1
        have kR := kR.stay hb1
        have hB1 := b_trans hb0 hb1
        have p0 := kA.cell 0
        have p1 := kA.cell 1
        have p2 := kA.cell 2
        have p3 := kA.cell 3
        have p4 := kA.cell 4
        have p5 := kA.cell 5
        have fA := kA.frozen
        have zA := kA.lt
        simp at p0 p1 p2 p3 p4 p5
        clear hb1 i3 i3'
        go_wp2
        refine wp_region_below (by kernel_rfl) (by kernel_rfl) ?_
        repeat (go_big_quiet_step ((first | with_reducible exact im _ _ | with_reducible exact im' _ _)))
        refine wpQuiet_nil ?_
        intro w2 hb2
        have kA2 := (kA.set_ 2 (.float .f64 0)).stay hb2
        have kR2 := (kR.far (p := ⟨w.heap.size, 2, none⟩) (by simp) (.float .f64 0)).stay hb2
        have hB2 := b_trans (b_set hB1 ⟨w.heap.size, 2, none⟩ (by simp) (.float .f64 0)) hb2
        have q0 := kA2.cell 0
        have q1 := kA2.cell 1
        have q2 := kA2.cell 2
        have q3 := kA2.cell 3
        have q4 := kA2.cell 4
        have q5 := kA2.cell 5
        have r0 := kR2.cell 0
        have r1 := kR2.cell 1
        have r2 := kR2.cell 2
        have r3 := kR2.cell 3
        have r4 := kR2.cell 4
        have r5 := kR2.cell 5
        have fA2 := kA2.frozen
        have fR2 := kR2.frozen
        have zA2 := kA2.lt
        have zR2 := kR2.lt
        simp at q0 q1 q2 q3 q4 q5 r0 r1 r2 r3 r4 r5
        clear p0 p1 p2 p3 p4 p5 fA hb2 im im' kA kR
        go_wp2
        refine bodyPost_ret (v := .agg #[.float .f64 x, .float .f64 y, .float .f64 0, .float .f64 0, .int .u8 3, .bool true]) (by simp [results, Try.results82, go_sem, r0, r1, r2, r3, r4, r5]) rfl ⟨rfl, ?_⟩
        repeat (first | with_reducible exact hB2 | with_reducible refine b_set ?_ _ (by first | (simp; done) | (simp; omega)) _)
    · rcases four hd' with rfl | rfl | rfl | rfl
      · simp only [c0, c1, c2, c3, c4, wd0, wd1, wd2, wd3] at *
        simp at i3 i3' im im'
        simp
        have hb0 := b_alloc (b_alloc (Below.refl w.heap.size w) (.cells #[.float .f64 x, .float .f64 y, .float .f64 z, .float .f64 m, .int .u8 1, .bool true] 100)) (.cells #[.float .f64 0, .float .f64 0, .float .f64 0, .float .f64 0, .int .u8 0, .bool false] 100)
        have kA := (Blk.newAt w 100 #[.float .f64 x, .float .f64 y, .float .f64 z, .float .f64 m, .int .u8 1, .bool true] rfl).alloc (.cells #[.float .f64 0, .float .f64 0, .float .f64 0, .float .f64 0, .int .u8 0, .bool false] 100)
        have kR := Blk.newAt (w.alloc (.cells #[.float .f64 x, .float .f64 y, .float .f64 z, .float .f64 m, .int .u8 1, .bool true] 100)) 100 #[.float .f64 0, .float .f64 0, .float .f64 0, .float .f64 0, .int .u8 0, .bool false] (n := w.heap.size + 1) (by simp)
        go_enter Try.func82, Try.ntmps82
        go_wp2
        refine wp_region_below (by kernel_rfl) (by kernel_rfl) ?_
        repeat (go_big_quiet_step ((first | with_reducible exact i3 _ _ | with_reducible exact i3' _ _)))
        refine wpQuiet_nil ?_
        intro w1 hb1
        have kA := kA.stay hb1
        have kR := kR.stay hb1
        have hB1 := b_trans hb0 hb1
        have p0 := kA.cell 0
        have p1 := kA.cell 1
        have p2 := kA.cell 2
        have p3 := kA.cell 3
        have p4 := kA.cell 4
        have p5 := kA.cell 5
        have fA := kA.frozen
        have zA := kA.lt
        simp at p0 p1 p2 p3 p4 p5
        clear hb1 i3 i3'
        go_wp2
        refine wp_region_below (by kernel_rfl) (by kernel_rfl) ?_
        repeat (go_big_quiet_step ((first | with_reducible exact im _ _ | with_reducible exact im' _ _)))
        refine wpQuiet_nil ?_
        intro w2 hb2
        have kA2 := (kA.set_ 2 (.float .f64 0)).stay hb2
        have kR2 := (kR.far (p := ⟨w.heap.size, 2, none⟩) (by simp) (.float .f64 0)).stay hb2
        have hB2 := b_trans (b_set hB1 ⟨w.heap.size, 2, none⟩ (by simp) (.float .f64 0)) hb2
        have q0 := kA2.cell 0
        have q1 := kA2.cell 1
        have q2 := kA2.cell 2
        have q3 := kA2.cell 3
        have q4 := kA2.cell 4
        have q5 := kA2.cell 5
        have r0 := kR2.cell 0
        have r1 := kR2.cell 1
        have r2 := kR2.cell 2
        have r3 := kR2.cell 3
        have r4 := kR2.cell 4
        have r5 := kR2.cell 5
        have fA2 := kA2.frozen
        have fR2 := kR2.frozen
        have zA2 := kA2.lt
        have zR2 := kR2.lt
        simp at q0 q1 q2 q3 q4 q5 r0 r1 r2 r3 r4 r5
        clear p0 p1 p2 p3 p4 p5 fA hb2 im im' kA kR
        go_wp2
        refine bodyPost_ret (v := .agg #[.float .f64 x, .float .f64 y, .float .f64 0, .float .f64 m, .int .u8 0, .bool true]) (by simp [results, Try.results82, go_sem, r0, r1, r2, r3, r4, r5]) rfl ⟨rfl, ?_⟩
        repeat (first | with_reducible exact hB2 | with_reducible refine b_set ?_ _ (by first | (simp; done) | (simp; omega)) _)
      · simp only [c0, c1, c2, c3, c4, wd0, wd1, wd2, wd3] at *
        simp at i3 i3' im im'
        simp
        have hb0 := b_alloc (b_alloc (Below.refl w.heap.size w) (.cells #[.float .f64 x, .float .f64 y, .float .f64 z, .float .f64 m, .int .u8 1, .bool true] 100)) (.cells #[.float .f64 0, .float .f64 0, .float .f64 0, .float .f64 0, .int .u8 0, .bool false] 100)
        have kA := (Blk.newAt w 100 #[.float .f64 x, .float .f64 y, .float .f64 z, .float .f64 m, .int .u8 1, .bool true] rfl).alloc (.cells #[.float .f64 0, .float .f64 0, .float .f64 0, .float .f64 0, .int .u8 0, .bool false] 100)
        have kR := Blk.newAt (w.alloc (.cells #[.float .f64 x, .float .f64 y, .float .f64 z, .float .f64 m, .int .u8 1, .bool true] 100)) 100 #[.float .f64 0, .float .f64 0, .float .f64 0, .float .f64 0, .int .u8 0, .bool false] (n := w.heap.size + 1) (by simp)
        go_enter Try.func82, Try.ntmps82
        go_wp2
        refine wp_region_below (by kernel_rfl) (by kernel_rfl) ?_
        repeat (go_big_quiet_step ((first | with_reducible exact i3 _ _ | with_reducible exact i3' _ _)))
        refine wpQuiet_nil ?_
        intro w1 hb1
        have kA := kA.stay hb1
        have kR := kR.stay hb1
        have hB1 := b_trans hb0 hb1
        have p0 := kA.cell 0
        have p1 := kA.cell 1
        have p2 := kA.cell 2
        have p3 := kA.cell 3
        have p4 := kA.cell 4
        have p5 := kA.cell 5
        have fA := kA.frozen
        have zA := kA.lt
        simp at p0 p1 p2 p3 p4 p5
        clear hb1 i3 i3'
        go_wp2
        refine wp_region_below (by kernel_rfl) (by kernel_rfl) ?_
        repeat (go_big_quiet_step ((first | with_reducible exact im _ _ | with_reducible exact im' _ _)))
        refine wpQuiet_nil ?_
        intro w2 hb2
        have kA2 := (kA).stay hb2
        have kR2 := (kR).stay hb2
        have hB2 := b_trans (hB1) hb2
        have q0 := kA2.cell 0
        have q1 := kA2.cell 1
        have q2 := kA2.cell 2
        have q3 := kA2.cell 3
        have q4 := kA2.cell 4
        have q5 := kA2.cell 5
        have r0 := kR2.cell 0
        have r1 := kR2.cell 1
        have r2 := kR2.cell 2
        have r3 := kR2.cell 3
        have r4 := kR2.cell 4
        have r5 := kR2.cell 5
        have fA2 := kA2.frozen
        have fR2 := kR2.frozen
        have zA2 := kA2.lt
        have zR2 := kR2.lt
        simp at q0 q1 q2 q3 q4 q5 r0 r1 r2 r3 r4 r5
        clear p0 p1 p2 p3 p4 p5 fA hb2 im im' kA kR
        go_wp2
        refine bodyPost_ret (v := .agg #[.float .f64 x, .float .f64 y, .float .f64 z, .float .f64 m, .int .u8 1, .bool true]) (by simp [results, Try.results82, go_sem, r0, r1, r2, r3, r4, r5]) rfl ⟨rfl, ?_⟩
        repeat (first | with_reducible exact hB2 | with_reducible refine b_set ?_ _ (by first | (simp; done) | (simp; omega)) _)
      · simp only [c0, c1, c2, c3, c4, wd0, wd1, wd2, wd3] at *
        simp at i3 i3' im im'
        simp
        have hb0 := b_alloc (b_alloc (Below.refl w.heap.size w) (.cells #[.float .f64 x, .float .f64 y, .float .f64 z, .float .f64 m, .int .u8 1, .bool true] 100)) (.cells #[.float .f64 0, .float .f64 0, .float .f64 0, .float .f64 0, .int .u8 0, .bool false] 100)
        have kA := (Blk.newAt w 100 #[.float .f64 x, .float .f64 y, .float .f64 z, .float .f64 m, .int .u8 1, .bool true] rfl).alloc (.cells #[.float .f64 0, .float .f64 0, .float .f64 0, .float .f64 0, .int .u8 0, .bool false] 100)
        have kR := Blk.newAt (w.alloc (.cells #[.float .f64 x, .float .f64 y, .float .f64 z, .float .f64 m, .int .u8 1, .bool true] 100)) 100 #[.float .f64 0, .float .f64 0, .float .f64 0, .float .f64 0, .int .u8 0, .bool false] (n := w.heap.size + 1) (by simp)
        go_enter Try.func82, Try.ntmps82
        go_wp2
        refine wp_region_below (by kernel_rfl) (by kernel_rfl) ?_
        repeat (go_big_quiet_step ((first | with_reducible exact i3 _ _ | with_reducible exact i3' _ _)))
        refine wpQuiet_nil ?_
        intro w1 hb1
        have kA := kA.stay hb1
        have kR := kR.stay hb1
        have hB1 := b_trans hb0 hb1
        have p0 := kA.cell 0
        have p1 := kA.cell 1
        have p2 := kA.cell 2
        have p3 := kA.cell 3
        have p4 := kA.cell 4
        have p5 := kA.cell 5
        have fA := kA.frozen
        have zA := kA.lt
        simp at p0 p1 p2 p3 p4 p5
        clear hb1 i3 i3'
        go_wp2
        refine wp_region_below (by kernel_rfl) (by kernel_rfl) ?_
        repeat (go_big_quiet_step ((first | with_reducible exact im _ _ | with_reducible exact im' _ _)))
        refine wpQuiet_nil ?_
        intro w2 hb2
        have kA2 := (kA.set_ 2 (.float .f64 0)).stay hb2
        have kR2 := (kR.far (p := ⟨w.heap.size, 2, none⟩) (by simp) (.float .f64 0)).stay hb2
        have hB2 := b_trans (b_set hB1 ⟨w.heap.size, 2, none⟩ (by simp) (.float .f64 0)) hb2
        have q0 := kA2.cell 0
        have q1 := kA2.cell 1
        have q2 := kA2.cell 2
        have q3 := kA2.cell 3
        have q4 := kA2.cell 4
        have q5 := kA2.cell 5
        have r0 := kR2.cell 0
        have r1 := kR2.cell 1
        have r2 := kR2.cell 2
        have r3 := kR2.cell 3
        have r4 := kR2.cell 4
        have r5 := kR2.cell 5
        have fA2 := kA2.frozen
        have fR2 := kR2.frozen
        have zA2 := kA2.lt
        have zR2 := kR2.lt
        simp at q0 q1 q2 q3 q4 q5 r0 r1 r2 r3 r4 r5
        clear p0 p1 p2 p3 p4 p5 fA hb2 im im' kA kR
        go_wp2
        refine bodyPost_ret (v := .agg #[.float .f64 x, .float .f64 y, .float .f64 0, .float .f64 0, .int .u8 2, .bool true]) (by simp [results, Try.results82, go_sem, r0, r1, r2, r3, r4, r5]) rfl ⟨rfl, ?_⟩
        repeat (first | with_reducible exact hB2 | with_reducible refine b_set ?_ _ (by first | (simp; done) | (simp; omega)) _)
      · simp only [c0, c1, c2, c3, c4, wd0, wd1, wd2, wd3] at *
        simp at i3 i3' im im'
        simp
        have hb0 := b_alloc (b_alloc (Below.refl w.heap.size w) (.cells #[.float .f64 x, .float .f64 y, .float .f64 z, .float .f64 m, .int .u8 1, .bool true] 100)) (.cells #[.float .f64 0, .float .f64 0, .float .f64 0, .float .f64 0, .int .u8 0, .bool false] 100)
        have kA := (Blk.newAt w 100 #[.float .f64 x, .float .f64 y, .float .f64 z, .float .f64 m, .int .u8 1, .bool true] rfl).alloc (.cells #[.float .f64 0, .float .f64 0, .float .f64 0, .float .f64 0, .int .u8 0, .bool false] 100)
        have kR := Blk.newAt (w.alloc (.cells #[.float .f64 x, .float .f64 y, .float .f64 z, .float .f64 m, .int .u8 1, .bool true] 100)) 100 #[.float .f64 0, .float .f64 0, .float .f64 0, .float .f64 0, .int .u8 0, .bool false] (n := w.heap.size + 1) (by simp)
        go_enter Try.func82, Try.ntmps82
        go_wp2
        refine wp_region_below (by kernel_rfl) (by kernel_rfl) ?_
        repeat (go_big_quiet_step ((first | with_reducible exact i3 _ _ | with_reducible exact i3' _ _)))
        refine wpQuiet_nil ?_
        intro w1 hb1
        have kA := kA.stay hb1
        have kR := kR.stay hb1
        have hB1 := b_trans hb0 hb1
        have p0 := kA.cell 0
        have p1 := kA.cell 1
        have p2 := kA.cell 2
        have p3 := kA.cell 3
        have p4 := kA.cell 4
        have p5 := kA.cell 5
        have fA := kA.frozen
        have zA := kA.lt
        simp at p0 p1 p2 p3 p4 p5
        clear hb1 i3 i3'
        go_wp2
        refine wp_region_below (by kernel_rfl) (by kernel_rfl) ?_
        repeat (go_big_quiet_step ((first | with_reducible exact im _ _ | with_reducible exact im' _ _)))
        refine wpQuiet_nil ?_
        intro w2 hb2
        have kA2 := (kA).stay hb2
        have kR2 := (kR).stay hb2
        have hB2 := b_trans (hB1) hb2
        have q0 := kA2.cell 0
        have q1 := kA2.cell 1
        have q2 := kA2.cell 2
        have q3 := kA2.cell 3
        have q4 := kA2.cell 4
        have q5 := kA2.cell 5
        have r0 := kR2.cell 0
        have r1 := kR2.cell 1
        have r2 := kR2.cell 2
        have r3 := kR2.cell 3
        have r4 := kR2.cell 4
        have r5 := kR2.cell 5
        have fA2 := kA2.frozen
        have fR2 := kR2.frozen
        have zA2 := kA2.lt
        have zR2 := kR2.lt
        simp at q0 q1 q2 q3 q4 q5 r0 r1 r2 r3 r4 r5
        clear p0 p1 p2 p3 p4 p5 fA hb2 im im' kA kR
        go_wp2
        refine bodyPost_ret (v := .agg #[.float .f64 x, .float .f64 y, .float .f64 z, .float .f64 0, .int .u8 3, .bool true]) (by simp [results, Try.results82, go_sem, r0, r1, r2, r3, r4, r5]) rfl ⟨rfl, ?_⟩
        repeat (first | with_reducible exact hB2 | with_reducible refine b_set ?_ _ (by first | (simp; done) | (simp; omega)) _)
    · rcases four hd' with rfl | rfl | rfl | rfl
      · simp only [c0, c1, c2, c3, c4, wd0, wd1, wd2, wd3] at *
        simp at i3 i3' im im'
        simp
        have hb0 := b_alloc (b_alloc (Below.refl w.heap.size w) (.cells #[.float .f64 x, .float .f64 y, .float .f64 z, .float .f64 m, .int .u8 2, .bool true] 100)) (.cells #[.float .f64 0, .float .f64 0, .float .f64 0, .float .f64 0, .int .u8 0, .bool false] 100)
        have kA := (Blk.newAt w 100 #[.float .f64 x, .float .f64 y, .float .f64 z, .float .f64 m, .int .u8 2, .bool true] rfl).alloc (.cells #[.float .f64 0, .float .f64 0, .float .f64 0, .float .f64 0, .int .u8 0, .bool false] 100)
        have kR := Blk.newAt (w.alloc (.cells #[.float .f64 x, .float .f64 y, .float .f64 z, .float .f64 m, .int .u8 2, .bool true] 100)) 100 #[.float .f64 0, .float .f64 0, .float .f64 0, .float .f64 0, .int .u8 0, .bool false] (n := w.heap.size + 1) (by simp)
        go_enter Try.func82, Try.ntmps82
        go_wp2
        refine wp_region_below (by kernel_rfl) (by kernel_rfl) ?_
        repeat (go_big_quiet_step ((first | with_reducible exact i3 _ _ | with_reducible exact i3' _ _)))
        refine wpQuiet_nil ?_
        intro w1 hb1
        have kA := kA.stay hb1
        have kR := kR.stay hb1
        have hB1 := b_trans hb0 hb1
        have p0 := kA.cell 0
        have p1 := kA.cell 1
        have p2 := kA.cell 2
        have p3 := kA.cell 3
        have p4 := kA.cell 4
        have p5 := kA.cell 5
        have fA := kA.frozen
        have zA := kA.lt
        simp at p0 p1 p2 p3 p4 p5
        clear hb1 i3 i3'
        go_wp2
        refine wp_region_below (by kernel_rfl) (by kernel_rfl) ?_
        repeat (go_big_quiet_step ((first | with_reducible exact im _ _ | with_reducible exact im' _ _)))
        refine wpQuiet_nil ?_
        intro w2 hb2
        have kA2 := (kA).stay hb2
        have kR2 := (kR).stay hb2
        have hB2 := b_trans (hB1) hb2
        have q0 := kA2.cell 0
        have q1 := kA2.cell 1
        have q2 := kA2.cell 2
        have q3 := kA2.cell 3
        have q4 := kA2.cell 4
        have q5 := kA2.cell 5
        have r0 := kR2.cell 0
        have r1 := kR2.cell 1
        have r2 := kR2.cell 2
        have r3 := kR2.cell 3
        have r4 := kR2.cell 4
        have r5 := kR2.cell 5
        have fA2 := kA2.frozen
        have fR2 := kR2.frozen
        have zA2 := kA2.lt
        have zR2 := kR2.lt
        simp at q0 q1 q2 q3 q4 q5 r0 r1 r2 r3 r4 r5
        clear p0 p1 p2 p3 p4 p5 fA hb2 im im' kA kR
        go_wp2
        refine bodyPost_ret (v := .agg #[.float .f64 x, .float .f64 y, .float .f64 z, .float .f64 0, .int .u8 0, .bool true]) (by simp [results, Try.results82, go_sem, r0, r1, r2, r3, r4, r5]) rfl ⟨rfl, ?_⟩
        repeat (first | with_reducible exact hB2 | with_reducible refine b_set ?_ _ (by first | (simp; done) | (simp; omega)) _)
      · simp only [c0, c1, c2, c3, c4, wd0, wd1, wd2, wd3] at *
        simp at i3 i3' im im'
        simp
        have hb0 := b_alloc (b_alloc (Below.refl w.heap.size w) (.cells #[.float .f64 x, .float .f64 y, .float .f64 z, .float .f64 m, .int .u8 2, .bool true] 100)) (.cells #[.float .f64 0, .float .f64 0, .float .f64 0, .float .f64 0, .int .u8 0, .bool false] 100)
        have kA := (Blk.newAt w 100 #[.float .f64 x, .float .f64 y, .float .f64 z, .float .f64 m, .int .u8 2, .bool true] rfl).alloc (.cells #[.float .f64 0, .float .f64 0, .float .f64 0, .float .f64 0, .int .u8 0, .bool false] 100)
        have kR := Blk.newAt (w.alloc (.cells #[.float .f64 x, .float .f64 y, .float .f64 z, .float .f64 m, .int .u8 2, .bool true] 100)) 100 #[.float .f64 0, .float .f64 0, .float .f64 0, .float .f64 0, .int .u8 0, .bool false] (n := w.heap.size + 1) (by simp)
        go_enter Try.func82, Try.ntmps82
        go_wp2
        refine wp_region_below (by kernel_rfl) (by kernel_rfl) ?_
        repeat (go_big_quiet_step ((first | with_reducible exact i3 _ _ | with_reducible exact i3' _ _)))
        refine wpQuiet_nil ?_
        intro w1 hb1
        have kA := kA.stay hb1
        have kR := kR.stay hb1
        have hB1 := b_trans hb0 hb1
        have p0 := kA.cell 0
        have p1 := kA.cell 1
        have p2 := kA.cell 2
        have p3 := kA.cell 3
        have p4 := kA.cell 4
        have p5 := kA.cell 5
        have fA := kA.frozen
        have zA := kA.lt
        simp at p0 p1 p2 p3 p4 p5
        clear hb1 i3 i3'
        go_wp2
        refine wp_region_below (by kernel_rfl) (by kernel_rfl) ?_
        repeat (go_big_quiet_step ((first | with_reducible exact im _ _ | with_reducible exact im' _ _)))
        refine wpQuiet_nil ?_
        intro w2 hb2
        have kA2 := (kA.set_ 2 (.float .f64 0)).stay hb2
        have kR2 := (kR.far (p := ⟨w.heap.size, 2, none⟩) (by simp) (.float .f64 0)).stay hb2
        have hB2 := b_trans (b_set hB1 ⟨w.heap.size, 2, none⟩ (by simp) (.float .f64 0)) hb2
        have q0 := kA2.cell 0
        have q1 := kA2.cell 1
        have q2 := kA2.cell 2
        have q3 := kA2.cell 3
        have q4 := kA2.cell 4
        have q5 := kA2.cell 5
        have r0 := kR2.cell 0
        have r1 := kR2.cell 1
        have r2 := kR2.cell 2
        have r3 := kR2.cell 3
        have r4 := kR2.cell 4
        have r5 := kR2.cell 5
        have fA2 := kA2.frozen
        have fR2 := kR2.frozen
        have zA2 := kA2.lt
        have zR2 := kR2.lt
        simp at q0 q1 q2 q3 q4 q5 r0 r1 r2 r3 r4 r5
        clear p0 p1 p2 p3 p4 p5 fA hb2 im im' kA kR
        go_wp2
        refine bodyPost_ret (v := .agg #[.float .f64 x, .float .f64 y, .float .f64 0, .float .f64 0, .int .u8 1, .bool true]) (by simp [results, Try.results82, go_sem, r0, r1, r2, r3, r4, r5]) rfl ⟨rfl, ?_⟩
        repeat (first | with_reducible exact hB2 | with_reducible refine b_set ?_ _ (by first | (simp; done) | (simp; omega)) _)
      · simp only [c0, c1, c2, c3, c4, wd0, wd1, wd2, wd3] at *
        simp at i3 i3' im im'
        simp
        have hb0 := b_alloc (b_alloc (Below.refl w.heap.size w) (.cells #[.float .f64 x, .float .f64 y, .float .f64 z, .float .f64 m, .int .u8 2, .bool true] 100)) (.cells #[.float .f64 0, .float .f64 0, .float .f64 0, .float .f64 0, .int .u8 0, .bool false] 100)
        have kA := (Blk.newAt w 100 #[.float .f64 x, .float .f64 y, .float .f64 z, .float .f64 m, .int .u8 2, .bool true] rfl).alloc (.cells #[.float .f64 0, .float .f64 0, .float .f64 0, .float .f64 0, .int .u8 0, .bool false] 100)
        have kR := Blk.newAt (w.alloc (.cells #[.float .f64 x, .float .f64 y, .float .f64 z, .float .f64 m, .int .u8 2, .bool true] 100)) 100 #[.float .f64 0, .float .f64 0, .float .f64 0, .float .f64 0, .int .u8 0, .bool false] (n := w.heap.size + 1) (by simp)
        go_enter Try.func82, Try.ntmps82
        go_wp2
        refine wp_region_below (by kernel_rfl) (by kernel_rfl) ?_
        repeat (go_big_quiet_step ((first | with_reducible exact i3 _ _ | with_reducible exact i3' _ _)))
        refine wpQuiet_nil ?_
        intro w1 hb1
        have kA := kA.stay hb1
        have kR := kR.stay hb1
        have hB1 := b_trans hb0 hb1
        have p0 := kA.cell 0
        have p1 := kA.cell 1
        have p2 := kA.cell 2
        have p3 := kA.cell 3
        have p4 := kA.cell 4
        have p5 := kA.cell 5
        have fA := kA.frozen
        have zA := kA.lt
        simp at p0 p1 p2 p3 p4 p5
        clear hb1 i3 i3'
        go_wp2
        refine wp_region_below (by kernel_rfl) (by kernel_rfl) ?_
        repeat (go_big_quiet_step ((first | with_reducible exact im _ _ | with_reducible exact im' _ _)))
        refine wpQuiet_nil ?_
        intro w2 hb2
        have kA2 := (kA).stay hb2
        have kR2 := (kR).stay hb2
        have hB2 := b_trans (hB1) hb2
        have q0 := kA2.cell 0
        have q1 := kA2.cell 1
        have q2 := kA2.cell 2
        have q3 := kA2.cell 3
        have q4 := kA2.cell 4
        have q5 := kA2.cell 5
        have r0 := kR2.cell 0
        have r1 := kR2.cell 1
        have r2 := kR2.cell 2
        have r3 := kR2.cell 3
        have r4 := kR2.cell 4
        have r5 := kR2.cell 5
        have fA2 := kA2.frozen
        have fR2 := kR2.frozen
        have zA2 := kA2.lt
        have zR2 := kR2.lt
        simp at q0 q1 q2 q3 q4 q5 r0 r1 r2 r3 r4 r5
        clear p0 p1 p2 p3 p4 p5 fA hb2 im im' kA kR
        go_wp2
        refine bodyPost_ret (v := .agg #[.float .f64 x, .float .f64 y, .float .f64 z, .float .f64 m, .int .u8 2, .bool true]) (by simp [results, Try.results82, go_sem, r0, r1, r2, r3, r4, r5]) rfl ⟨rfl, ?_⟩
        repeat (first | with_reducible exact hB2 | with_reducible refine b_set ?_ _ (by first | (simp; done) | (simp; omega)) _)
      · simp only [c0, c1, c2, c3, c4, wd0, wd1, wd2, wd3] at *
        simp at i3 i3' im im'
        simp
        have hb0 := b_alloc (b_alloc (Below.refl w.heap.size w) (.cells #[.float .f64 x, .float .f64 y, .float .f64 z, .float .f64 m, .int .u8 2, .bool true] 100)) (.cells #[.float .f64 0, .float .f64 0, .float .f64 0, .float .f64 0, .int .u8 0, .bool false] 100)
        have kA := (Blk.newAt w 100 #[.float .f64 x, .float .f64 y, .float .f64 z, .float .f64 m, .int .u8 2, .bool true] rfl).alloc (.cells #[.float .f64 0, .float .f64 0, .float .f64 0, .float .f64 0, .int .u8 0, .bool false] 100)
        have kR := Blk.newAt (w.alloc (.cells #[.float .f64 x, .float .f64 y, .float .f64 z, .float .f64 m, .int .u8 2, .bool true] 100)) 100 #[.float .f64 0, .float .f64 0, .float .f64 0, .float .f64 0, .int .u8 0, .bool false] (n := w.heap.size + 1) (by simp)
        go_enter Try.func82, Try.ntmps82
        go_wp2
        refine wp_region_below (by kernel_rfl) (by kernel_rfl) ?_
        repeat (go_big_quiet_step ((first | with_reducible exact i3 _ _ | with_reducible exact i3' _ _)))
        refine wpQuiet_nil ?_
        intro w1 hb1
        have kA := kA.stay hb1
        have kR := kR.stay hb1
        have hB1 := b_trans hb0 hb1
        have p0 := kA.cell 0
        have p1 := kA.cell 1
        have p2 := kA.cell 2
        have p3 := kA.cell 3
        have p4 := kA.cell 4
        have p5 := kA.cell 5
        have fA := kA.frozen
        have zA := kA.lt
        simp at p0 p1 p2 p3 p4 p5
        clear hb1 i3 i3'
        go_wp2
        refine wp_region_below (by kernel_rfl) (by kernel_rfl) ?_
        repeat (go_big_quiet_step ((first | with_reducible exact im _ _ | with_reducible exact im' _ _)))
        refine wpQuiet_nil ?_
        intro w2 hb2
        have kA2 := (kA.set_ 2 (.float .f64 0)).stay hb2
        have kR2 := (kR.far (p := ⟨w.heap.size, 2, none⟩) (by simp) (.float .f64 0)).stay hb2
        have hB2 := b_trans (b_set hB1 ⟨w.heap.size, 2, none⟩ (by simp) (.float .f64 0)) hb2
        have q0 := kA2.cell 0
        have q1 := kA2.cell 1
        have q2 := kA2.cell 2
        have q3 := kA2.cell 3
        have q4 := kA2.cell 4
        have q5 := kA2.cell 5
        have r0 := kR2.cell 0
        have r1 := kR2.cell 1
        have r2 := kR2.cell 2
        have r3 := kR2.cell 3
        have r4 := kR2.cell 4
        have r5 := kR2.cell 5
        have fA2 := kA2.frozen
        have fR2 := kR2.frozen
        have zA2 := kA2.lt
        have zR2 := kR2.lt
        simp at q0 q1 q2 q3 q4 q5 r0 r1 r2 r3 r4 r5
        clear p0 p1 p2 p3 p4 p5 fA hb2 im im' kA kR
        go_wp2
        refine bodyPost_ret (v := .agg #[.float .f64 x, .float .f64 y, .float .f64 0, .float .f64 m, .int .u8 3, .bool true]) (by simp [results, Try.results82, go_sem, r0, r1, r2, r3, r4, r5]) rfl ⟨rfl, ?_⟩
        repeat (first | with_reducible exact hB2 | with_reducible refine b_set ?_ _ (by first | (simp; done) | (simp; omega)) _)
    · rcases four hd' with rfl | rfl | rfl | rfl
      · simp only [c0, c1, c2, c3, c4, wd0, wd1, wd2, wd3] at *
        simp at i3 i3' im im'
        simp
        have hb0 := b_alloc (b_alloc (Below.refl w.heap.size w) (.cells #[.float .f64 x, .float .f64 y, .float .f64 z, .float .f64 m, .int .u8 3, .bool true] 100)) (.cells #[.float .f64 0, .float .f64 0, .float .f64 0, .float .f64 0, .int .u8 0, .bool false] 100)
        have kA := (Blk.newAt w 100 #[.float .f64 x, .float .f64 y, .float .f64 z, .float .f64 m, .int .u8 3, .bool true] rfl).alloc (.cells #[.float .f64 0, .float .f64 0, .float .f64 0, .float .f64 0, .int .u8 0, .bool false] 100)
        have kR := Blk.newAt (w.alloc (.cells #[.float .f64 x, .float .f64 y, .float .f64 z, .float .f64 m, .int .u8 3, .bool true] 100)) 100 #[.float .f64 0, .float .f64 0, .float .f64 0, .float .f64 0, .int .u8 0, .bool false] (n := w.heap.size + 1) (by simp)
        go_enter Try.func82, Try.ntmps82
        go_wp2
        refine wp_region_below (by kernel_rfl) (by kernel_rfl) ?_
        repeat (go_big_quiet_step ((first | with_reducible exact i3 _ _ | with_reducible exact i3' _ _)))
        refine wpQuiet_nil ?_
        intro w1 hb1
        have kA := kA.stay hb1
        have kR := kR.stay hb1
        have hB1 := b_trans hb0 hb1
        have p0 := kA.cell 0
        have p1 := kA.cell 1
        have p2 := kA.cell 2
        have p3 := kA.cell 3
        have p4 := kA.cell 4
        have p5 := kA.cell 5
        have fA := kA.frozen
        have zA := kA.lt
        simp at p0 p1 p2 p3 p4 p5
        clear hb1 i3 i3'
        go_wp2
        refine wp_region_below (by kernel_rfl) (by kernel_rfl) ?_
        repeat (go_big_quiet_step ((first | with_reducible exact im _ _ | with_reducible exact im' _ _)))
        refine wpQuiet_nil ?_
        intro w2 hb2
        have kA2 := (kA.set_ 2 (.float .f64 0)).stay hb2
        have kR2 := (kR.far (p := ⟨w.heap.size, 2, none⟩) (by simp) (.float .f64 0)).stay hb2
        have hB2 := b_trans (b_set hB1 ⟨w.heap.size, 2, none⟩ (by simp) (.float .f64 0)) hb2
        have q0 := kA2.cell 0
        have q1 := kA2.cell 1
        have q2 := kA2.cell 2
        have q3 := kA2.cell 3
        have q4 := kA2.cell 4
        have q5 := kA2.cell 5
        have r0 := kR2.cell 0
        have r1 := kR2.cell 1
        have r2 := kR2.cell 2
        have r3 := kR2.cell 3
        have r4 := kR2.cell 4
        have r5 := kR2.cell 5
        have fA2 := kA2.frozen
        have fR2 := kR2.frozen
        have zA2 := kA2.lt
        have zR2 := kR2.lt
        simp at q0 q1 q2 q3 q4 q5 r0 r1 r2 r3 r4 r5
        clear p0 p1 p2 p3 p4 p5 fA hb2 im im' kA kR
        go_wp2
        refine bodyPost_ret (v := .agg #[.float .f64 x, .float .f64 y, .float .f64 0, .float .f64 0, .int .u8 0, .bool true]) (by simp [results, Try.results82, go_sem, r0, r1, r2, r3, r4, r5]) rfl ⟨rfl, ?_⟩
        repeat (first | with_reducible exact hB2 | with_reducible refine b_set ?_ _ (by first | (simp; done) | (simp; omega)) _)
      · simp only [c0, c1, c2, c3, c4, wd0, wd1, wd2, wd3] at *
        simp at i3 i3' im im'
        simp
        have hb0 := b_alloc (b_alloc (Below.refl w.heap.size w) (.cells #[.float .f64 x, .float .f64 y, .float .f64 z, .float .f64 m, .int .u8 3, .bool true] 100)) (.cells #[.float .f64 0, .float .f64 0, .float .f64 0, .float .f64 0, .int .u8 0, .bool false] 100)
        have kA := (Blk.newAt w 100 #[.float .f64 x, .float .f64 y, .float .f64 z, .float .f64 m, .int .u8 3, .bool true] rfl).alloc (.cells #[.float .f64 0, .float .f64 0, .float .f64 0, .float .f64 0, .int .u8 0, .bool false] 100)
        have kR := Blk.newAt (w.alloc (.cells #[.float .f64 x, .float .f64 y, .float .f64 z, .float .f64 m, .int .u8 3, .bool true] 100)) 100 #[.float .f64 0, .float .f64 0, .float .f64 0, .float .f64 0, .int .u8 0, .bool false] (n := w.heap.size + 1) (by simp)
        go_enter Try.func82, Try.ntmps82
        go_wp2
        refine wp_region_below (by kernel_rfl) (by kernel_rfl) ?_
        repeat (go_big_quiet_step ((first | with_reducible exact i3 _ _ | with_reducible exact i3' _ _)))
        refine wpQuiet_nil ?_
        intro w1 hb1
        have kA := kA.stay hb1
        have kR := kR.stay hb1
        have hB1 := b_trans hb0 hb1
        have p0 := kA.cell 0
        have p1 := kA.cell 1
        have p2 := kA.cell 2
        have p3 := kA.cell 3
        have p4 := kA.cell 4
        have p5 := kA.cell 5
        have fA := kA.frozen
        have zA := kA.lt
        simp at p0 p1 p2 p3 p4 p5
        clear hb1 i3 i3'
        go_wp2
        refine wp_region_below (by kernel_rfl) (by kernel_rfl) ?_
        repeat (go_big_quiet_step ((first | with_reducible exact im _ _ | with_reducible exact im' _ _)))
        refine wpQuiet_nil ?_
        intro w2 hb2
        have kA2 := (kA).stay hb2
        have kR2 := (kR).stay hb2
        have hB2 := b_trans (hB1) hb2
        have q0 := kA2.cell 0
        have q1 := kA2.cell 1
        have q2 := kA2.cell 2
        have q3 := kA2.cell 3
        have q4 := kA2.cell 4
        have q5 := kA2.cell 5
        have r0 := kR2.cell 0
        have r1 := kR2.cell 1
        have r2 := kR2.cell 2
        have r3 := kR2.cell 3
        have r4 := kR2.cell 4
        have r5 := kR2.cell 5
        have fA2 := kA2.frozen
        have fR2 := kR2.frozen
        have zA2 := kA2.lt
        have zR2 := kR2.lt
        simp at q0 q1 q2 q3 q4 q5 r0 r1 r2 r3 r4 r5
        clear p0 p1 p2 p3 p4 p5 fA hb2 im im' kA kR
        go_wp2
        refine bodyPost_ret (v := .agg #[.float .f64 x, .float .f64 y, .float .f64 z, .float .f64 0, .int .u8 1, .bool true]) (by simp [results, Try.results82, go_sem, r0, r1, r2, r3, r4, r5]) rfl ⟨rfl, ?_⟩
        repeat (first | with_reducible exact hB2 | with_reducible refine b_set ?_ _ (by first | (simp; done) | (simp; omega)) _)
      · simp only [c0, c1, c2, c3, c4, wd0, wd1, wd2, wd3] at *
        simp at i3 i3' im im'
        simp
        have hb0 := b_alloc (b_alloc (Below.refl w.heap.size w) (.cells #[.float .f64 x, .float .f64 y, .float .f64 z, .float .f64 m, .int .u8 3, .bool true] 100)) (.cells #[.float .f64 0, .float .f64 0, .float .f64 0, .float .f64 0, .int .u8 0, .bool false] 100)
        have kA := (Blk.newAt w 100 #[.float .f64 x, .float .f64 y, .float .f64 z, .float .f64 m, .int .u8 3, .bool true] rfl).alloc (.cells #[.float .f64 0, .float .f64 0, .float .f64 0, .float .f64 0, .int .u8 0, .bool false] 100)
        have kR := Blk.newAt (w.alloc (.cells #[.float .f64 x, .float .f64 y, .float .f64 z, .float .f64 m, .int .u8 3, .bool true] 100)) 100 #[.float .f64 0, .float .f64 0, .float .f64 0, .float .f64 0, .int .u8 0, .bool false] (n := w.heap.size + 1) (by simp)
        go_enter Try.func82, Try.ntmps82
        go_wp2
        refine wp_region_below (by kernel_rfl) (by kernel_rfl) ?_
        repeat (go_big_quiet_step ((first | with_reducible exact i3 _ _ | with_reducible exact i3' _ _)))
        refine wpQuiet_nil ?_
        intro w1 hb1
        have kA := kA.stay hb1
        have kR := kR.stay hb1
        have hB1 := b_trans hb0 hb1
        have p0 := kA.cell 0
        have p1 := kA.cell 1
        have p2 := kA.cell 2
        have p3 := kA.cell 3
        have p4 := kA.cell 4
        have p5 := kA.cell 5
        have fA := kA.frozen
        have zA := kA.lt
        simp at p0 p1 p2 p3 p4 p5
        clear hb1 i3 i3'
        go_wp2
        refine wp_region_below (by kernel_rfl) (by kernel_rfl) ?_
        repeat (go_big_quiet_step ((first | with_reducible exact im _ _ | with_reducible exact im' _ _)))
        refine wpQuiet_nil ?_
        intro w2 hb2
        have kA2 := (kA.set_ 2 (.float .f64 0)).stay hb2
        have kR2 := (kR.far (p := ⟨w.heap.size, 2, none⟩) (by simp) (.float .f64 0)).stay hb2
        have hB2 := b_trans (b_set hB1 ⟨w.heap.size, 2, none⟩ (by simp) (.float .f64 0)) hb2
        have q0 := kA2.cell 0
        have q1 := kA2.cell 1
        have q2 := kA2.cell 2
        have q3 := kA2.cell 3
        have q4 := kA2.cell 4
        have q5 := kA2.cell 5
        have r0 := kR2.cell 0
        have r1 := kR2.cell 1
        have r2 := kR2.cell 2
        have r3 := kR2.cell 3
        have r4 := kR2.cell 4
        have r5 := kR2.cell 5
        have fA2 := kA2.frozen
        have fR2 := kR2.frozen
        have zA2 := kA2.lt
        have zR2 := kR2.lt
        simp at q0 q1 q2 q3 q4 q5 r0 r1 r2 r3 r4 r5
        clear p0 p1 p2 p3 p4 p5 fA hb2 im im' kA kR
        go_wp2
        refine bodyPost_ret (v := .agg #[.float .f64 x, .float .f64 y, .float .f64 0, .float .f64 m, .int .u8 2, .bool true]) (by simp [results, Try.results82, go_sem, r0, r1, r2, r3, r4, r5]) rfl ⟨rfl, ?_⟩
        repeat (first | with_reducible exact hB2 | with_reducible refine b_set ?_ _ (by first | (simp; done) | (simp; omega)) _)
      · simp only [c0, c1, c2, c3, c4, wd0, wd1, wd2, wd3] at *
        simp at i3 i3' im im'
        simp
        have hb0 := b_alloc (b_alloc (Below.refl w.heap.size w) (.cells #[.float .f64 x, .float .f64 y, .float .f64 z, .float .f64 m, .int .u8 3, .bool true] 100)) (.cells #[.float .f64 0, .float .f64 0, .float .f64 0, .float .f64 0, .int .u8 0, .bool false] 100)
        have kA := (Blk.newAt w 100 #[.float .f64 x, .float .f64 y, .float .f64 z, .float .f64 m, .int .u8 3, .bool true] rfl).alloc (.cells #[.float .f64 0, .float .f64 0, .float .f64 0, .float .f64 0, .int .u8 0, .bool false] 100)
        have kR := Blk.newAt (w.alloc (.cells #[.float .f64 x, .float .f64 y, .float .f64 z, .float .f64 m, .int .u8 3, .bool true] 100)) 100 #[.float .f64 0, .float .f64 0, .float .f64 0, .float .f64 0, .int .u8 0, .bool false] (n := w.heap.size + 1) (by simp)
        go_enter Try.func82, Try.ntmps82
        go_wp2
        refine wp_region_below (by kernel_rfl) (by kernel_rfl) ?_
        repeat (go_big_quiet_step ((first | with_reducible exact i3 _ _ | with_reducible exact i3' _ _)))
        refine wpQuiet_nil ?_
        intro w1 hb1
        have kA := kA.stay hb1
        have kR := kR.stay hb1
        have hB1 := b_trans hb0 hb1
        have p0 := kA.cell 0
        have p1 := kA.cell 1
        have p2 := kA.cell 2
        have p3 := kA.cell 3
        have p4 := kA.cell 4
        have p5 := kA.cell 5
        have fA := kA.frozen
        have zA := kA.lt
        simp at p0 p1 p2 p3 p4 p5
        clear hb1 i3 i3'
        go_wp2
        refine wp_region_below (by kernel_rfl) (by kernel_rfl) ?_
        repeat (go_big_quiet_step ((first | with_reducible exact im _ _ | with_reducible exact im' _ _)))
        refine wpQuiet_nil ?_
        intro w2 hb2
        have kA2 := (kA).stay hb2
        have kR2 := (kR).stay hb2
        have hB2 := b_trans (hB1) hb2
        have q0 := kA2.cell 0
        have q1 := kA2.cell 1
        have q2 := kA2.cell 2
        have q3 := kA2.cell 3
        have q4 := kA2.cell 4
        have q5 := kA2.cell 5
        have r0 := kR2.cell 0
        have r1 := kR2.cell 1
        have r2 := kR2.cell 2
        have r3 := kR2.cell 3
        have r4 := kR2.cell 4
        have r5 := kR2.cell 5
        have fA2 := kA2.frozen
        have fR2 := kR2.frozen
        have zA2 := kA2.lt
        have zR2 := kR2.lt
        simp at q0 q1 q2 q3 q4 q5 r0 r1 r2 r3 r4 r5
        clear p0 p1 p2 p3 p4 p5 fA hb2 im im' kA kR
        go_wp2
        refine bodyPost_ret (v := .agg #[.float .f64 x, .float .f64 y, .float .f64 z, .float .f64 m, .int .u8 3, .bool true]) (by simp [results, Try.results82, go_sem, r0, r1, r2, r3, r4, r5]) rfl ⟨rfl, ?_⟩
        repeat (first | with_reducible exact hB2 | with_reducible refine b_set ?_ _ (by first | (simp; done) | (simp; omega)) _)
end Geo
end Go.Proofs.Ytllomldpbkeioaa
