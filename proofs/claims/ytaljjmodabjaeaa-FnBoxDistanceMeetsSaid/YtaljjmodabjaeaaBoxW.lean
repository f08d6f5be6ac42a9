/- FnBoxDistanceMeets: the walks. -/
import Derived.Test.YtaljjmodabjaeaaNumW
namespace Go.Proofs.Ytaljjmodabjaeaa
open Go.RowKit Go.Sort Fl NumW
namespace Box
theorem box_any (a b c d : Nat) (w : World) : Calls Try.prog 27 #[boxV a b c d] w fun e w' => e = .returned (boxV a b c d) ∧ Below w.heap.size w w' := by
  unfold boxV
  go_enter Try.func27, Try.ntmps27
  go_wp2
  refine bodyPost_ret (v := .agg #[.float .f64 a, .float .f64 b, .float .f64 c, .float .f64 d]) (by simp [results, Try.results27, go_sem]) rfl ⟨rfl, ?_⟩
  (repeat (first | exact Below.refl _ _ | refine b_alloc ?_ _ | refine b_drew ?_ | refine b_drewN ?_ _ | refine b_set ?_ _ (by simp) _ | refine b_trans ?_ (by assumption)))
def rmax (a b : Nat) : Nat := if flt b a then a else b
theorem rmax_any (a b : Nat) (w : World) : Calls Try.prog 45 #[.float .f64 a, .float .f64 b] w fun e w' => e = .returned (.float .f64 (rmax a b)) ∧ w = w' := by
  unfold rmax
  by_cases h : flt b a = true
  · rw [if_pos h]
    go_enter Try.func45, Try.ntmps45
    go_wp2
    go_ret
    exact ⟨rfl, rfl⟩
  · rw [if_neg h]
    go_enter Try.func45, Try.ntmps45
    go_wp2
    go_ret
    exact ⟨rfl, rfl⟩
def gapF (a0 a2 b0 b2 : Nat) : Nat := rmax 0 (rmax (fsub a0 b2) (fsub b0 a2))
def sqdF (a0 a1 a2 a3 b0 b1 b2 b3 : Nat) : Nat := fadd (fmul (gapF a0 a2 b0 b2) (gapF a0 a2 b0 b2)) (fmul (gapF a1 a3 b1 b3) (gapF a1 a3 b1 b3))
theorem isI_rmax {x y : Nat} {a b : Int} (hx : isI x a) (hy : isI y b) : isI (rmax x y) (max a b) := by
  unfold rmax
  rw [isI_flt hy hx]
  by_cases h : b < a
  · rw [if_pos (by simpa using h), Int.max_eq_left (by omega)]; exact hx
  · rw [if_neg (by simpa using h), Int.max_eq_right (by omega)]; exact hy
theorem isI_zero : isI 0 0 := isI_lit (by decide +kernel) (by decide)
theorem isI_gapF {a0 a2 b0 b2 : Nat} {A0 A2 B0 B2 : Int} (h0 : isI a0 A0) (h2 : isI a2 A2) (k0 : isI b0 B0) (k2 : isI b2 B2) (hA0 : A0.natAbs ≤ 1048576) (hA2 : A2.natAbs ≤ 1048576) (hB0 : B0.natAbs ≤ 1048576) (hB2 : B2.natAbs ≤ 1048576) :
    isI (fsub a0 b2) (A0 - B2) ∧ isI (fsub b0 a2) (B0 - A2) ∧ isI (gapF a0 a2 b0 b2) (max 0 (max (A0 - B2) (B0 - A2))) := by
  have e1 := isI_fsub h0 k2 (by omega)
  have e2 := isI_fsub k0 h2 (by omega)
  exact ⟨e1, e2, isI_rmax isI_zero (isI_rmax e1 e2)⟩
theorem sq_small {x : Int} (h : x.natAbs ≤ 2097152) : (x * x).natAbs ≤ 4398046511104 := by
  rw [Int.natAbs_mul]; exact Nat.mul_le_mul h h
theorem isI_sqdF {gx gy : Nat} {X Y : Int} (hx : isI gx X) (hy : isI gy Y) (bx : X.natAbs ≤ 2097152) (bY : Y.natAbs ≤ 2097152) :
    isI (fmul gx gx) (X * X) ∧ isI (fmul gy gy) (Y * Y) ∧ isI (fadd (fmul gx gx) (fmul gy gy)) (X * X + Y * Y) := by
  have s1 := sq_small bx; have s2 := sq_small bY
  have e1 := isI_fmul hx hx (by omega)
  have e2 := isI_fmul hy hy (by omega)
  exact ⟨e1, e2, isI_fadd e1 e2 (by omega)⟩
set_option maxHeartbeats 1000000 in
theorem sqd_any (a0 a1 a2 a3 b0 b1 b2 b3 : Nat) (f1 : fin a0) (f2 : fin a1) (f3 : fin a2) (f4 : fin a3) (f5 : fin b0) (f6 : fin b1) (f7 : fin b2) (f8 : fin b3)
    (g1 : fin (gapF a0 a2 b0 b2)) (g2 : fin (gapF a1 a3 b1 b3)) (g3 : fin (fmul (gapF a0 a2 b0 b2) (gapF a0 a2 b0 b2))) (g4 : fin (fmul (gapF a1 a3 b1 b3) (gapF a1 a3 b1 b3))) (w : World) :
    Calls Try.prog 38 #[boxV a0 a1 a2 a3, boxV b0 b1 b2 b3] w fun e w' => e = .returned (.float .f64 (sqdF a0 a1 a2 a3 b0 b1 b2 b3)) ∧ Below w.heap.size w w' := by
  unfold boxV sqdF
  unfold gapF at *
  go_enter Try.func38, Try.ntmps38
  go_wp2_with (go_at_call 45; refine (rmax_any _ _ _).mono ?_; rintro e w1 ⟨rfl, rfl⟩)
  go_ret
  refine ⟨rfl, ?_⟩
  (repeat (first | exact Below.refl _ _ | refine b_alloc ?_ _ | refine b_drew ?_ | refine b_drewN ?_ _ | refine b_set ?_ _ (by simp) _ | refine b_trans ?_ (by assumption)))
set_option maxHeartbeats 1000000 in
theorem dsqd_any (a0 a1 a2 a3 b0 b1 b2 b3 z : Nat) (h : ∀ w, Calls Try.prog 38 #[boxV a0 a1 a2 a3, boxV b0 b1 b2 b3] w fun e w' => e = .returned (.float .f64 z) ∧ Below w.heap.size w w') (w : World) :
    Calls Try.prog 15 #[boxV a0 a1 a2 a3, boxV b0 b1 b2 b3] w fun e w' => e = .returned (.float .f64 z) ∧ Below w.heap.size w w' := by
  have hd : ∀ w, Calls Try.prog 26 #[boxV a0 a1 a2 a3, boxV b0 b1 b2 b3] w fun e w' => e = .returned (.float .f64 z) ∧ Below w.heap.size w w' := by
    intro w
    have H := Lib.hid h
    clear h
    unfold boxV at *
    go_enter Try.func26, Try.ntmps26
    go_wp2_with (go_at_call 38; refine (H.out _).mono ?_; rintro e w1 ⟨rfl, hb1⟩)
    go_ret
    refine ⟨rfl, ?_⟩
    (repeat (first | exact Below.refl _ _ | refine b_alloc ?_ _ | refine b_drew ?_ | refine b_drewN ?_ _ | refine b_set ?_ _ (by simp) _ | refine b_trans ?_ (by assumption)))
  clear h
  have c1 := fun a b c d (w : World) => Calls.inClass (w := w) (box_any a b c d)
  have c2 := fun (w : World) => Calls.inClass (w := w) hd
  clear hd
  unfold boxV at *
  go_enter Try.func15, Try.ntmps15
  go_wp2
  refine wp_region_below (by kernel_rfl) (by kernel_rfl) ?_
  repeat (go_big_quiet_step ((first | with_reducible exact c1 _ _ _ _ _ _ | with_reducible exact c2 _ _)))
  refine wpQuiet_nil ?_
  intro w1 hb1
  go_wp2
  go_ret
  refine ⟨rfl, ?_⟩
  (repeat (first | exact Below.refl _ _ | refine b_alloc ?_ _ | refine b_drew ?_ | refine b_drewN ?_ _ | refine b_set ?_ _ (by simp) _ | refine b_trans ?_ (by assumption)))
def meetB (a0 a1 a2 a3 b0 b1 b2 b3 : Nat) : Bool := fle a0 b2 && fle b0 a2 && fle a1 b3 && fle b1 a3
set_option maxHeartbeats 1000000 in
theorem over_any (a0 a1 a2 a3 b0 b1 b2 b3 : Nat) (w : World) : Calls Try.prog 39 #[boxV a0 a1 a2 a3, boxV b0 b1 b2 b3] w fun e w' => e = .returned (.bool (meetB a0 a1 a2 a3 b0 b1 b2 b3)) ∧ Below w.heap.size w w' := by
  have e0 : meetB a0 a1 a2 a3 b0 b1 b2 b3 = (fle a0 b2 && fle b0 a2 && fle a1 b3 && fle b1 a3) := rfl
  have H0 := Lib.hid e0
  clear e0
  unfold boxV
  go_enter Try.func39, Try.ntmps39
  go_wp2
  all_goals
    go_ret
    refine ⟨by rw [H0.out]; simp [*], ?_⟩
    (repeat (first | exact Below.refl _ _ | refine b_alloc ?_ _ | refine b_drew ?_ | refine b_drewN ?_ _ | refine b_set ?_ _ (by simp) _ | refine b_trans ?_ (by assumption)))
set_option maxHeartbeats 1000000 in
theorem meet_any (a0 a1 a2 a3 b0 b1 b2 b3 : Nat) (w : World) :
    Calls Try.prog 16 #[boxV a0 a1 a2 a3, boxV b0 b1 b2 b3] w fun e w' => e = .returned (.bool (meetB a0 a1 a2 a3 b0 b1 b2 b3)) ∧ Below w.heap.size w w' := by
  have hd : ∀ w, Calls Try.prog 28 #[boxV a0 a1 a2 a3, boxV b0 b1 b2 b3] w fun e w' => e = .returned (.bool (meetB a0 a1 a2 a3 b0 b1 b2 b3)) ∧ Below w.heap.size w w' := by
    intro w
    have H := over_any a0 a1 a2 a3 b0 b1 b2 b3
    generalize meetB a0 a1 a2 a3 b0 b1 b2 b3 = z at *
    unfold boxV at *
    have H := Lib.hid H
    go_enter Try.func28, Try.ntmps28
    go_wp2_with (go_at_call 39; refine (H.out _).mono ?_; rintro e w1 ⟨rfl, hb1⟩)
    go_ret
    refine ⟨rfl, ?_⟩
    (repeat (first | exact Below.refl _ _ | refine b_alloc ?_ _ | refine b_drew ?_ | refine b_drewN ?_ _ | refine b_set ?_ _ (by simp) _ | refine b_trans ?_ (by assumption)))
  have c1 := fun a b c d (w : World) => Calls.inClass (w := w) (box_any a b c d)
  have c2 := fun (w : World) => Calls.inClass (w := w) hd
  clear hd
  generalize meetB a0 a1 a2 a3 b0 b1 b2 b3 = z at *
  unfold boxV at *
  go_enter Try.func16, Try.ntmps16
  go_wp2
  refine wp_region_below (by kernel_rfl) (by kernel_rfl) ?_
  repeat (go_big_quiet_step ((first | with_reducible exact c1 _ _ _ _ _ _ | with_reducible exact c2 _ _)))
  refine wpQuiet_nil ?_
  intro w1 hb1
  go_wp2
  go_ret
  refine ⟨rfl, ?_⟩
  (repeat (first | exact Below.refl _ _ | refine b_alloc ?_ _ | refine b_drew ?_ | refine b_drewN ?_ _ | refine b_set ?_ _ (by simp) _ | refine b_trans ?_ (by assumption)))
def tBoxB (a b c d : Nat) : Bool := whole4 a b c d && fle a c && fle b d
set_option maxHeartbeats 1000000 in
theorem tbox_any (a b c d : Nat) (w : World) : Calls Try.prog 14 #[boxV a b c d] w fun e w' => e = .returned (.bool (tBoxB a b c d)) ∧ Below w.heap.size w w' := by
  have e0 : tBoxB a b c d = (whole4 a b c d && fle a c && fle b d) := rfl
  have c1 := ewhole_any a b c d
  generalize whole4 a b c d = z at *
  have H0 := Lib.hid e0
  have C1 := fun (w : World) => Calls.inClass (w := w) c1
  clear e0 c1
  by_cases q1 : z = true
  · subst q1
    by_cases q2 : fle a c = true
    · unfold boxV at *
      go_enter Try.func14, Try.ntmps14
      go_upto_region 1 with fail
      refine wp_region_plain_below ?_
      repeat (go_big_quiet_step ((first | with_reducible exact C1 _ _)))
      refine wpQuiet_nil ?_
      intro w1 hb1
      go_wp2
      go_ret
      refine ⟨by rw [H0.out]; simp [*], ?_⟩
      (repeat (first | exact Below.refl _ _ | refine b_alloc ?_ _ | refine b_drew ?_ | refine b_drewN ?_ _ | refine b_set ?_ _ (by simp) _ | refine b_trans ?_ (by assumption)))
    · rw [Bool.not_eq_true] at q2
      unfold boxV at *
      go_enter Try.func14, Try.ntmps14
      go_upto_region 1 with fail
      refine wp_region_plain_below ?_
      repeat (go_big_quiet_step ((first | with_reducible exact C1 _ _)))
      refine wpQuiet_nil ?_
      intro w1 hb1
      go_wp2
      go_ret
      refine ⟨by rw [H0.out]; simp [*], ?_⟩
      (repeat (first | exact Below.refl _ _ | refine b_alloc ?_ _ | refine b_drew ?_ | refine b_drewN ?_ _ | refine b_set ?_ _ (by simp) _ | refine b_trans ?_ (by assumption)))
  · rw [Bool.not_eq_true] at q1
    subst q1
    unfold boxV at *
    go_enter Try.func14, Try.ntmps14
    go_upto_region 1 with fail
    refine wp_region_plain_below ?_
    repeat (go_big_quiet_step ((first | with_reducible exact C1 _ _)))
    refine wpQuiet_nil ?_
    intro w1 hb1
    go_wp2
    go_ret
    refine ⟨by rw [H0.out]; simp [*], ?_⟩
    (repeat (first | exact Below.refl _ _ | refine b_alloc ?_ _ | refine b_drew ?_ | refine b_drewN ?_ _ | refine b_set ?_ _ (by simp) _ | refine b_trans ?_ (by assumption)))
theorem sq_zero (x : Int) : x * x = 0 ↔ x = 0 := by
  constructor
  · intro h; rcases Int.mul_eq_zero.1 h with h | h <;> exact h
  · intro h; rw [h]; rfl
theorem sq_nonneg (x : Int) : 0 ≤ x * x := by
  rcases Int.le_total 0 x with h | h
  · exact Int.mul_nonneg h h
  · exact Int.mul_nonneg_of_nonpos_of_nonpos h h
/-- what the law says, of numbers -/
theorem law {a0 a1 a2 a3 b0 b1 b2 b3 : Nat} (ha : tBoxB a0 a1 a2 a3 = true) (hb : tBoxB b0 b1 b2 b3 = true) :
    (∀ w, Calls Try.prog 15 #[boxV a0 a1 a2 a3, boxV b0 b1 b2 b3] w fun e w' => e = .returned (.float .f64 (sqdF a0 a1 a2 a3 b0 b1 b2 b3)) ∧ Below w.heap.size w w') ∧
    (∀ w, Calls Try.prog 15 #[boxV b0 b1 b2 b3, boxV a0 a1 a2 a3] w fun e w' => e = .returned (.float .f64 (sqdF b0 b1 b2 b3 a0 a1 a2 a3)) ∧ Below w.heap.size w w') ∧
    feq (sqdF a0 a1 a2 a3 b0 b1 b2 b3) 0 = meetB a0 a1 a2 a3 b0 b1 b2 b3 ∧ fle 0 (sqdF a0 a1 a2 a3 b0 b1 b2 b3) = true ∧ feq (sqdF a0 a1 a2 a3 b0 b1 b2 b3) (sqdF b0 b1 b2 b3 a0 a1 a2 a3) = true := by
  unfold tBoxB whole4 at ha hb
  simp only [Bool.and_eq_true] at ha hb
  obtain ⟨⟨⟨⟨⟨ha0, ha1⟩, ha2⟩, ha3⟩, oa1⟩, oa2⟩ := ha
  obtain ⟨⟨⟨⟨⟨hb0, hb1⟩, hb2⟩, hb3⟩, ob1⟩, ob2⟩ := hb
  obtain ⟨A0, i0, l0, u0⟩ := whole20_iff.1 ha0
  obtain ⟨A1, i1, l1, u1⟩ := whole20_iff.1 ha1
  obtain ⟨A2, i2, l2, u2⟩ := whole20_iff.1 ha2
  obtain ⟨A3, i3, l3, u3⟩ := whole20_iff.1 ha3
  obtain ⟨B0, j0, m0, v0⟩ := whole20_iff.1 hb0
  obtain ⟨B1, j1, m1, v1⟩ := whole20_iff.1 hb1
  obtain ⟨B2, j2, m2, v2⟩ := whole20_iff.1 hb2
  obtain ⟨B3, j3, m3, v3⟩ := whole20_iff.1 hb3
  rw [isI_fle i0 i2] at oa1; rw [isI_fle i1 i3] at oa2; rw [isI_fle j0 j2] at ob1; rw [isI_fle j1 j3] at ob2
  simp only [decide_eq_true_eq] at oa1 oa2 ob1 ob2
  have gx := isI_gapF i0 i2 j0 j2 (by omega) (by omega) (by omega) (by omega)
  have gy := isI_gapF i1 i3 j1 j3 (by omega) (by omega) (by omega) (by omega)
  have hx := isI_gapF j0 j2 i0 i2 (by omega) (by omega) (by omega) (by omega)
  have hy := isI_gapF j1 j3 i1 i3 (by omega) (by omega) (by omega) (by omega)
  have s1 := isI_sqdF gx.2.2 gy.2.2 (by omega) (by omega)
  have s2 := isI_sqdF hx.2.2 hy.2.2 (by omega) (by omega)
  have eX : max 0 (max (B0 - A2) (A0 - B2)) = max 0 (max (A0 - B2) (B0 - A2)) := by omega
  have eY : max 0 (max (B1 - A3) (A1 - B3)) = max 0 (max (A1 - B3) (B1 - A3)) := by omega
  have t1 : isI (sqdF a0 a1 a2 a3 b0 b1 b2 b3) _ := s1.2.2
  have t2 : isI (sqdF b0 b1 b2 b3 a0 a1 a2 a3) _ := s2.2.2
  rw [eX, eY] at t2
  refine ⟨dsqd_any _ _ _ _ _ _ _ _ _ (sqd_any _ _ _ _ _ _ _ _ i0.1 i1.1 i2.1 i3.1 j0.1 j1.1 j2.1 j3.1 gx.2.2.1 gy.2.2.1 s1.1.1 s1.2.1.1),
    dsqd_any _ _ _ _ _ _ _ _ _ (sqd_any _ _ _ _ _ _ _ _ j0.1 j1.1 j2.1 j3.1 i0.1 i1.1 i2.1 i3.1 hx.2.2.1 hy.2.2.1 s2.1.1 s2.2.1.1), ?_, ?_, ?_⟩
  · rw [isI_feq t1 isI_zero]
    unfold meetB
    rw [isI_fle i0 j2, isI_fle j0 i2, isI_fle i1 j3, isI_fle j1 i3]
    rw [Bool.eq_iff_iff]
    simp only [Bool.and_eq_true, decide_eq_true_eq]
    have n1 := sq_nonneg (max 0 (max (A0 - B2) (B0 - A2)))
    have n2 := sq_nonneg (max 0 (max (A1 - B3) (B1 - A3)))
    have z1 := sq_zero (max 0 (max (A0 - B2) (B0 - A2)))
    have z2 := sq_zero (max 0 (max (A1 - B3) (B1 - A3)))
    constructor
    · intro h
      have h1 := z1.1 (by omega)
      have h2 := z2.1 (by omega)
      omega
    · intro h
      have h1 := z1.2 (by omega)
      have h2 := z2.2 (by omega)
      omega
  · rw [isI_fle isI_zero t1]
    have n1 := sq_nonneg (max 0 (max (A0 - B2) (B0 - A2)))
    have n2 := sq_nonneg (max 0 (max (A1 - B3) (B1 - A3)))
    simp; omega
  · rw [isI_feq t1 t2]; simp
set_option maxHeartbeats 2000000 in
theorem walk (a0 a1 a2 a3 b0 b1 b2 b3 : Nat) (w : World) : Calls Try.prog 5 #[boxV a0 a1 a2 a3, boxV b0 b1 b2 b3] w fun e w' => e = .returned (.bool true) ∧ Below w.heap.size w w' := by
  have c1 := fun (w : World) => Calls.inClass (w := w) (tbox_any a0 a1 a2 a3)
  have c2 := fun (w : World) => Calls.inClass (w := w) (tbox_any b0 b1 b2 b3)
  have c3 := fun (w : World) => Calls.inClass (w := w) (meet_any a0 a1 a2 a3 b0 b1 b2 b3)
  by_cases qa : tBoxB a0 a1 a2 a3 = true
  · by_cases qb : tBoxB b0 b1 b2 b3 = true
    · obtain ⟨l1, l2, l3, l4, l5⟩ := law qa qb
      rw [← l3] at c3
      have c4 := fun (w : World) => Calls.inClass (w := w) l1
      have c5 := fun (w : World) => Calls.inClass (w := w) l2
      rw [qa] at c1
      rw [qb] at c2
      clear l1 l2 l3 qa qb
      generalize sqdF a0 a1 a2 a3 b0 b1 b2 b3 = z1 at *
      generalize sqdF b0 b1 b2 b3 a0 a1 a2 a3 = z2 at *
      unfold boxV at *
      go_enter Try.func5, Try.ntmps5
      go_upto_region 1 with fail
      refine wp_region_plain_below ?_
      repeat (go_big_quiet_step ((first | with_reducible exact c1 _ _ | with_reducible exact c2 _ _)))
      refine wpQuiet_nil ?_
      intro w1 hb1
      obtain ⟨bcw1, bfw1⟩ := bcell hb1
      have zw1_0 : w.heap.size < w1.heap.size := by have := hb1.size; (try simp at this); omega
      have zw1_1 : w.heap.size + 1 < w1.heap.size := by have := hb1.size; (try simp at this); omega
      go_upto_region 3 with fail
      refine wp_region_plain_below ?_
      repeat (go_big_quiet_step ((first | with_reducible exact c4 _ _)))
      refine wpQuiet_nil ?_
      intro w2 hb2
      obtain ⟨bcw2, bfw2⟩ := bcell hb2
      have zw2_0 : w.heap.size < w2.heap.size := by have := hb2.size; (try simp at this); omega
      have zw2_1 : w.heap.size + 1 < w2.heap.size := by have := hb2.size; (try simp at this); omega
      go_upto_region 4 with fail
      refine wp_region_plain_below ?_
      repeat (go_big_quiet_step ((first | with_reducible exact c3 _ _ | with_reducible exact c5 _ _)))
      refine wpQuiet_nil ?_
      intro w3 hb3
      go_wp2
      go_ret
      refine ⟨rfl, ?_⟩
      (repeat (first | exact Below.refl _ _ | refine b_alloc ?_ _ | refine b_drew ?_ | refine b_drewN ?_ _ | refine b_set ?_ _ (by simp) _ | refine b_trans ?_ (by assumption)))
    · rw [qa] at c1
      rw [Bool.not_eq_true] at qb
      rw [qb] at c2
      clear qa qb c3
      unfold boxV at *
      go_enter Try.func5, Try.ntmps5
      go_upto_region 1 with fail
      refine wp_region_plain_below ?_
      repeat (go_big_quiet_step ((first | with_reducible exact c1 _ _ | with_reducible exact c2 _ _)))
      refine wpQuiet_nil ?_
      intro w1 hb1
      go_wp2
      go_ret
      refine ⟨rfl, ?_⟩
      (repeat (first | exact Below.refl _ _ | refine b_alloc ?_ _ | refine b_drew ?_ | refine b_drewN ?_ _ | refine b_set ?_ _ (by simp) _ | refine b_trans ?_ (by assumption)))
  · rw [Bool.not_eq_true] at qa
    rw [qa] at c1
    clear qa c2 c3
    unfold boxV at *
    go_enter Try.func5, Try.ntmps5
    go_upto_region 1 with fail
    refine wp_region_plain_below ?_
    repeat (go_big_quiet_step ((first | with_reducible exact c1 _ _)))
    refine wpQuiet_nil ?_
    intro w1 hb1
    go_wp2
    go_ret
    refine ⟨rfl, ?_⟩
    (repeat (first | exact Below.refl _ _ | refine b_alloc ?_ _ | refine b_drew ?_ | refine b_drewN ?_ _ | refine b_set ?_ _ (by simp) _ | refine b_trans ?_ (by assumption)))
end Box
end Go.Proofs.Ytaljjmodabjaeaa
