/- FnSegmentLess: the walks. -/
import Derived.Test.YtaljjmodabjaeaaChecked
import Derived.Test.YtaljjmodabjaeaaBase
import Derived.Laws.StructEq
import Derived.Lib.Hide
import Derived.Outline
namespace Go.Proofs.Ytaljjmodabjaeaa
open Go.RowKit Go.Sort Fl
namespace Seg
theorem xy_any (x y : Nat) (w : World) : Calls Try.prog 24 #[xyV x y] w fun e w' => e = .returned (xyV x y) ∧ Below w.heap.size w w' := by
  unfold xyV
  go_enter Try.func24, Try.ntmps24
  go_wp2
  exact bodyPost_ret (v := .agg #[.float .f64 x, .float .f64 y]) (by simp [results, Try.results24, go_sem]) rfl ⟨rfl, b_alloc (b_alloc (Below.refl _ _) _) _⟩
def xyLess (a b c d : Nat) : Bool := if feq a c then flt b d else flt a c
theorem less_any (a b c d : Nat) (w : World) : Calls Try.prog 43 #[xyV a b, xyV c d] w fun e w' => e = .returned (.bool (xyLess a b c d)) ∧ Below w.heap.size w w' := by
  unfold xyV
  by_cases h : feq a c = true
  · have e1 : xyLess a b c d = flt b d := by unfold xyLess; rw [if_pos h]
    rw [e1]
    go_enter Try.func43, Try.ntmps43
    go_wp2
    go_ret
    exact ⟨rfl, b_alloc (b_alloc (Below.refl _ _) _) _⟩
  · have e1 : xyLess a b c d = flt a c := by unfold xyLess; rw [if_neg h]
    rw [e1]
    go_enter Try.func43, Try.ntmps43
    go_wp2
    go_ret
    exact ⟨rfl, b_alloc (b_alloc (Below.refl _ _) _) _⟩
theorem dless_any (a b c d : Nat) (w : World) : Calls Try.prog 13 #[xyV a b, xyV c d] w fun e w' => e = .returned (.bool (flt a c || feq a c && flt b d)) ∧ Below w.heap.size w w' := by
  unfold xyV
  by_cases h : flt a c = true
  · rw [h, Bool.true_or]
    go_enter Try.func13, Try.ntmps13
    go_wp2
    go_ret
    exact ⟨rfl, b_alloc (b_alloc (Below.refl _ _) _) _⟩
  · rw [Bool.not_eq_true] at h
    rw [h, Bool.false_or]
    by_cases h2 : feq a c = true
    · rw [h2, Bool.true_and]
      go_enter Try.func13, Try.ntmps13
      go_wp2
      go_ret
      exact ⟨rfl, b_alloc (b_alloc (Below.refl _ _) _) _⟩
    · rw [Bool.not_eq_true] at h2
      rw [h2, Bool.false_and]
      go_enter Try.func13, Try.ntmps13
      go_wp2
      go_ret
      exact ⟨rfl, b_alloc (b_alloc (Below.refl _ _) _) _⟩
theorem gnum_any (x : Nat) (w : World) : Calls Try.prog 22 #[.float .f64 x] w fun e w' => e = .returned (.bool (feq x x)) ∧ w = w' := by
  go_enter Try.func22, Try.ntmps22
  go_wp2
  go_ret
  exact ⟨by simp, rfl⟩
def segV (a b c d : Nat) : Value := .agg #[.float .f64 a, .float .f64 b, .float .f64 c, .float .f64 d]
def segLess (a b c d e f g h : Nat) : Bool := if feq a e && feq b f then xyLess c d g h else xyLess a b e f
set_option maxHeartbeats 1000000 in
theorem lless_any (a b c d e f g h : Nat) (w : World) : Calls Try.prog 36 #[segV a b c d, segV e f g h] w fun r w' => r = .returned (.bool (segLess a b c d e f g h)) ∧ Below w.heap.size w w' := by
  unfold segV
  by_cases q1 : feq a e = true
  · by_cases q2 : feq b f = true
    · have e1 : segLess a b c d e f g h = xyLess c d g h := by unfold segLess; rw [q1, q2]; rfl
      rw [e1]
      go_enter Try.func36, Try.ntmps36
      go_wp2_with (go_at_call 43; refine (less_any c d g h _).mono ?_; rintro e w1 ⟨rfl, hb1⟩)
      go_ret
      exact ⟨rfl, b_trans (b_alloc (b_alloc (Below.refl _ _) _) _) hb1⟩
    · have e1 : segLess a b c d e f g h = xyLess a b e f := by unfold segLess; rw [if_neg (by simp [q2])]
      rw [e1]
      rw [Bool.not_eq_true] at q2
      go_enter Try.func36, Try.ntmps36
      go_wp2_with (go_at_call 43; refine (less_any a b e f _).mono ?_; rintro e w1 ⟨rfl, hb1⟩)
      go_ret
      exact ⟨rfl, b_trans (b_alloc (b_alloc (Below.refl _ _) _) _) hb1⟩
  · have e1 : segLess a b c d e f g h = xyLess a b e f := by unfold segLess; rw [if_neg (by simp [q1])]
    rw [e1]
    rw [Bool.not_eq_true] at q1
    go_enter Try.func36, Try.ntmps36
    go_wp2_with (go_at_call 43; refine (less_any a b e f _).mono ?_; rintro e w1 ⟨rfl, hb1⟩)
    go_ret
    exact ⟨rfl, b_trans (b_alloc (b_alloc (Below.refl _ _) _) _) hb1⟩
set_option maxHeartbeats 1000000 in
theorem door_any (a b c d e f g h : Nat) (w : World) : Calls Try.prog 23 #[xyV a b, xyV c d, xyV e f, xyV g h] w fun r w' => r = .returned (.bool (segLess a b c d e f g h)) ∧ Below w.heap.size w w' := by
  unfold xyV
  go_enter Try.func23, Try.ntmps23
  go_wp2_with (go_at_call 36; refine (lless_any a b c d e f g h _).mono ?_; rintro e w1 ⟨rfl, hb1⟩)
  go_ret
  exact ⟨rfl, b_trans (b_alloc (b_alloc (b_alloc (b_alloc (Below.refl _ _) _) _) _) _) hb1⟩
set_option maxHeartbeats 1000000 in
theorem segless_any (a b c d e f g h : Nat) (w : World) : Calls Try.prog 12 #[xyV a b, xyV c d, xyV e f, xyV g h] w fun r w' => r = .returned (.bool (segLess a b c d e f g h)) ∧ Below w.heap.size w w' := by
  have c1 := fun x y (w : World) => Calls.inClass (w := w) (xy_any x y)
  have c2 := fun (w : World) => Calls.inClass (w := w) (door_any a b c d e f g h)
  unfold xyV at *
  go_enter Try.func12, Try.ntmps12
  go_wp2
  refine wp_region_below (by kernel_rfl) (by kernel_rfl) ?_
  repeat (go_big_quiet_step ((first | with_reducible exact c1 _ _ _ _ | with_reducible exact c2 _ _)))
  refine wpQuiet_nil ?_
  intro w1 hb1
  go_wp2
  go_ret
  exact ⟨rfl, b_trans (b_alloc (b_alloc (b_alloc (b_alloc (Below.refl _ _) _) _) _) _) hb1⟩
def nums (ps : List (Nat × Nat)) : Bool := ps.all fun p => feq p.1 p.1 && feq p.2 p.2
theorem dnums_any (A : Option Addr) (ps : List (Nat × Nat)) (n c : Nat) (hn : n = ps.length) (hm : n ≤ 1000000) (w : World) (hA : XYs w w.heap.size A ps) : Calls Try.prog 11 #[.slice A n c] w fun r w' => r = .returned (.bool (nums ps)) ∧ Below w.heap.size w w' := by
  subst hn
  go_enter Try.func11, Try.ntmps11
  go_wp2
  go_loopw [7] (fun i wr => ∃ k : Nat, k ≤ ps.length ∧ i = .int .i64 k ∧ nums (ps.take k) = true ∧ Below w.heap.size w wr) (fun i _ => ps.length - (intOf i).toNat)
  case atStart => exact ⟨0, Nat.zero_le _, rfl, rfl, Below.refl _ _⟩
  case round =>
    obtain ⟨k, hk, rfl, hall, hb⟩ := hrel
    by_cases hlt : k < ps.length
    · obtain ⟨b, off, rfl, hbl, hc⟩ := hA (by intro h; subst h; simp at hlt)
      obtain ⟨c1, c2⟩ := hc k hlt
      rw [← hb.cell (p := ⟨b, _, none⟩) hbl] at c1 c2
      have h1 : nums (ps.take (k + 1)) = (feq ps[k].1 ps[k].1 && feq ps[k].2 ps[k].2) := by
        rw [List.take_succ_eq_append_getElem hlt]; unfold nums at *; rw [List.all_append, hall]; simp
      have h0 : (feq ps[k].1 ps[k].1 && feq ps[k].2 ps[k].2) = false → nums ps = false := by
        intro hf
        unfold nums
        rw [List.all_eq_false]
        exact ⟨ps[k], List.getElem_mem _, by simpa using hf⟩
      have H1 := Lib.hid h1
      have H2 := Lib.hid hall
      clear h1 hall
      generalize ps[k].1 = x at *
      generalize ps[k].2 = y at *
      by_cases q1 : feq x x = true
      · by_cases q2 : feq y y = true
        · rw [q1, q2] at H1
          go_wp2_with (go_at_call 22; refine (gnum_any _ _).mono ?_; rintro e w1 ⟨rfl, rfl⟩)
          go_roundw
          case rel => exact ⟨k + 1, by omega, by go_num, H1.out, b_alloc hb _⟩
          case measure => simp [intOf]; omega
        · rw [Bool.not_eq_true] at q2
          have H3 := Lib.hid (h0 (by rw [q2, Bool.and_false]))
          clear h0
          go_wp2_with (go_at_call 22; refine (gnum_any _ _).mono ?_; rintro e w1 ⟨rfl, rfl⟩)
          go_ret
          exact ⟨by rw [H3.out]; rfl, b_alloc hb _⟩
      · rw [Bool.not_eq_true] at q1
        have H3 := Lib.hid (h0 (by rw [q1, Bool.false_and]))
        clear h0
        go_wp2_with (go_at_call 22; refine (gnum_any _ _).mono ?_; rintro e w1 ⟨rfl, rfl⟩)
        go_ret
        exact ⟨by rw [H3.out]; rfl, b_alloc hb _⟩
    · obtain rfl : k = ps.length := by omega
      rw [List.take_length] at hall
      have H3 := Lib.hid hall
      clear hall
      go_wp2_with fail
      go_ret
      exact ⟨by rw [H3.out]; rfl, hb⟩
def dl (a b c d : Nat) : Bool := flt a c || feq a c && flt b d
theorem seg_law {ax ay bx bY cx cy dx dy : Nat} (h1 : feq ax ax = true) (h2 : feq ay ay = true) (h3 : feq bx bx = true) (h4 : feq bY bY = true) (h5 : feq cx cx = true) (h6 : feq cy cy = true) (h7 : feq dx dx = true) (h8 : feq dy dy = true) :
    segLess ax ay bx bY cx cy dx dy = (dl ax ay cx cy || (feq ax cx && feq ay cy) && dl bx bY dx dy) := by
  have n1 := (feq_iff.1 h1).1; have n2 := (feq_iff.1 h2).1; have n3 := (feq_iff.1 h3).1; have n4 := (feq_iff.1 h4).1
  have n5 := (feq_iff.1 h5).1; have n6 := (feq_iff.1 h6).1; have n7 := (feq_iff.1 h7).1; have n8 := (feq_iff.1 h8).1
  unfold segLess xyLess dl
  rw [flt_num n1 n5, feq_num n1 n5, flt_num n2 n6, feq_num n2 n6, flt_num n3 n7, feq_num n3 n7, flt_num n4 n8]
  generalize key ax = a; generalize key ay = b; generalize key bx = c; generalize key bY = d; generalize key cx = e; generalize key cy = f; generalize key dx = g; generalize key dy = h
  rw [Bool.eq_iff_iff]
  simp only [Bool.and_eq_true, decide_eq_true_eq, Bool.or_eq_true]
  split
  · rename_i q; split
    · simp only [decide_eq_true_eq]; omega
    · simp only [decide_eq_true_eq]; omega
  · rename_i q; split
    · simp only [decide_eq_true_eq]; omega
    · simp only [decide_eq_true_eq]; omega
theorem four_xys (w : World) (t : TypeId) (n B : Nat) (hn : n = w.heap.size) (hB : n < B) (a b c d e f g h : Nat) : XYs (w.alloc (.cells #[.float .f64 a, .float .f64 b, .float .f64 c, .float .f64 d, .float .f64 e, .float .f64 f, .float .f64 g, .float .f64 h] t)) B (some ⟨n, 0, none⟩) [(a, b), (c, d), (e, f), (g, h)] := by
  subst hn
  intro _
  refine ⟨_, _, rfl, hB, fun i hi => ?_⟩
  have hi' : i < 4 := hi
  match i, hi' with
  | 0, _ => exact ⟨by simp [go_sem], by simp [go_sem]⟩
  | 1, _ => exact ⟨by simp [go_sem], by simp [go_sem]⟩
  | 2, _ => exact ⟨by simp [go_sem], by simp [go_sem]⟩
  | 3, _ => exact ⟨by simp [go_sem], by simp [go_sem]⟩
set_option maxHeartbeats 4000000 in
theorem walk (ax ay bx bY cx cy dx dy : Nat) (w : World) : Calls Try.prog 4 #[xyV ax ay, xyV bx bY, xyV cx cy, xyV dx dy] w fun r w' => r = .returned (.bool true) ∧ Below w.heap.size w w' := by
  have dn := fun (w : World) (A : Option Addr) (c : Nat) => dnums_any A [(ax, ay), (bx, bY), (cx, cy), (dx, dy)] 4 c rfl (by omega) w
  by_cases hn : nums [(ax, ay), (bx, bY), (cx, cy), (dx, dy)] = true
  · rw [hn] at dn
    simp only [nums, List.all_cons, List.all_nil, Bool.and_true, Bool.and_eq_true] at hn
    obtain ⟨⟨h1, h2⟩, ⟨h3, h4⟩, ⟨h5, h6⟩, h7, h8⟩ := hn
    have hs := seg_law h1 h2 h3 h4 h5 h6 h7 h8
    clear h1 h2 h3 h4 h5 h6 h7 h8
    have c1 := fun (w : World) => Calls.inClass (w := w) (segless_any ax ay bx bY cx cy dx dy)
    have c2 := fun (w : World) => Calls.inClass (w := w) (dless_any ax ay cx cy)
    have c3 := fun (w : World) => Calls.inClass (w := w) (dless_any bx bY dx dy)
    have Hdn := Lib.hid dn
    clear dn
    have d0 : (flt ax cx || feq ax cx && flt ay cy) = dl ax ay cx cy := rfl
    rw [d0] at c2
    clear d0
    have d0 : (flt bx dx || feq bx dx && flt bY dy) = dl bx bY dx dy := rfl
    rw [d0] at c3
    clear d0
    by_cases d1 : dl ax ay cx cy = true
    · rw [hs, d1] at c1
      rw [d1] at c2
      clear hs d1 c3
      unfold xyV at *
      go_enter Try.func4, Try.ntmps4
      go_wp2_with (go_at_call 11; refine (Hdn.out _ _ _ ?_).mono ?_; rotate_left; rintro e w1 ⟨rfl, hb1⟩)
      · obtain ⟨bc, bf⟩ := bcell hb1
        have z0 : w.heap.size < w1.heap.size := by have := hb1.size; simp at this; omega
        have z1 : w.heap.size + 1 < w1.heap.size := by have := hb1.size; simp at this; omega
        have z2 : w.heap.size + 1 + 1 < w1.heap.size := by have := hb1.size; simp at this; omega
        have z3 : w.heap.size + 1 + 1 + 1 < w1.heap.size := by have := hb1.size; simp at this; omega
        refine wp_region_below (by kernel_rfl) (by kernel_rfl) ?_
        repeat (go_big_quiet_step ((first | with_reducible exact c1 _ _ | with_reducible exact c2 _ _ )))
        refine wpQuiet_nil ?_
        intro w2 hb2
        go_wp2
        go_ret
        exact ⟨rfl, b_trans (b_trans (b_alloc (b_alloc (b_alloc (b_alloc (b_alloc (Below.refl _ _) _) _) _) _) _) hb1) hb2⟩
      · exact four_xys _ _ _ _ (by simp) (by simp) _ _ _ _ _ _ _ _
    · rw [Bool.not_eq_true] at d1
      by_cases q1 : feq ax cx = true
      · by_cases q2 : feq ay cy = true
        · rw [hs, d1, q1, q2, Bool.and_true, Bool.false_or, Bool.true_and] at c1
          rw [d1] at c2
          clear hs d1
          generalize dl bx bY dx dy = z at *
          unfold xyV at *
          go_enter Try.func4, Try.ntmps4
          go_wp2_with (go_at_call 11; refine (Hdn.out _ _ _ ?_).mono ?_; rotate_left; rintro e w1 ⟨rfl, hb1⟩)
          · obtain ⟨bc, bf⟩ := bcell hb1
            have z0 : w.heap.size < w1.heap.size := by have := hb1.size; simp at this; omega
            have z1 : w.heap.size + 1 < w1.heap.size := by have := hb1.size; simp at this; omega
            have z2 : w.heap.size + 1 + 1 < w1.heap.size := by have := hb1.size; simp at this; omega
            have z3 : w.heap.size + 1 + 1 + 1 < w1.heap.size := by have := hb1.size; simp at this; omega
            refine wp_region_below (by kernel_rfl) (by kernel_rfl) ?_
            repeat (go_big_quiet_step ((first | with_reducible exact c1 _ _ | with_reducible exact c2 _ _ | with_reducible exact c3 _ _)))
            refine wpQuiet_nil ?_
            intro w2 hb2
            go_wp2
            go_ret
            exact ⟨rfl, b_trans (b_trans (b_alloc (b_alloc (b_alloc (b_alloc (b_alloc (Below.refl _ _) _) _) _) _) _) hb1) hb2⟩
          · exact four_xys _ _ _ _ (by simp) (by simp) _ _ _ _ _ _ _ _
        · rw [Bool.not_eq_true] at q2
          rw [hs, d1, q1, q2, Bool.and_false, Bool.false_or, Bool.false_and] at c1
          rw [d1] at c2
          clear hs d1 c3
          unfold xyV at *
          go_enter Try.func4, Try.ntmps4
          go_wp2_with (go_at_call 11; refine (Hdn.out _ _ _ ?_).mono ?_; rotate_left; rintro e w1 ⟨rfl, hb1⟩)
          · obtain ⟨bc, bf⟩ := bcell hb1
            have z0 : w.heap.size < w1.heap.size := by have := hb1.size; simp at this; omega
            have z1 : w.heap.size + 1 < w1.heap.size := by have := hb1.size; simp at this; omega
            have z2 : w.heap.size + 1 + 1 < w1.heap.size := by have := hb1.size; simp at this; omega
            have z3 : w.heap.size + 1 + 1 + 1 < w1.heap.size := by have := hb1.size; simp at this; omega
            refine wp_region_below (by kernel_rfl) (by kernel_rfl) ?_
            repeat (go_big_quiet_step ((first | with_reducible exact c1 _ _ | with_reducible exact c2 _ _ )))
            refine wpQuiet_nil ?_
            intro w2 hb2
            go_wp2
            go_ret
            exact ⟨rfl, b_trans (b_trans (b_alloc (b_alloc (b_alloc (b_alloc (b_alloc (Below.refl _ _) _) _) _) _) _) hb1) hb2⟩
          · exact four_xys _ _ _ _ (by simp) (by simp) _ _ _ _ _ _ _ _
      · rw [Bool.not_eq_true] at q1
        rw [hs, d1, q1, Bool.false_and, Bool.false_or, Bool.false_and] at c1
        rw [d1] at c2
        clear hs d1 c3
        unfold xyV at *
        go_enter Try.func4, Try.ntmps4
        go_wp2_with (go_at_call 11; refine (Hdn.out _ _ _ ?_).mono ?_; rotate_left; rintro e w1 ⟨rfl, hb1⟩)
        · obtain ⟨bc, bf⟩ := bcell hb1
          have z0 : w.heap.size < w1.heap.size := by have := hb1.size; simp at this; omega
          have z1 : w.heap.size + 1 < w1.heap.size := by have := hb1.size; simp at this; omega
          have z2 : w.heap.size + 1 + 1 < w1.heap.size := by have := hb1.size; simp at this; omega
          have z3 : w.heap.size + 1 + 1 + 1 < w1.heap.size := by have := hb1.size; simp at this; omega
          refine wp_region_below (by kernel_rfl) (by kernel_rfl) ?_
          repeat (go_big_quiet_step ((first | with_reducible exact c1 _ _ | with_reducible exact c2 _ _ )))
          refine wpQuiet_nil ?_
          intro w2 hb2
          go_wp2
          go_ret
          exact ⟨rfl, b_trans (b_trans (b_alloc (b_alloc (b_alloc (b_alloc (b_alloc (Below.refl _ _) _) _) _) _) _) hb1) hb2⟩
        · exact four_xys _ _ _ _ (by simp) (by simp) _ _ _ _ _ _ _ _
  · rw [Bool.not_eq_true] at hn
    rw [hn] at dn
    clear hn
    have Hdn := Lib.hid dn
    clear dn
    unfold xyV at *
    go_enter Try.func4, Try.ntmps4
    go_wp2_with (go_at_call 11; refine (Hdn.out _ _ _ ?_).mono ?_; rotate_left; rintro e w1 ⟨rfl, hb1⟩)
    · go_ret
      exact ⟨rfl, b_trans (b_alloc (b_alloc (b_alloc (b_alloc (b_alloc (Below.refl _ _) _) _) _) _) _) hb1⟩
    · exact four_xys _ _ _ _ (by simp) (by simp) _ _ _ _ _ _ _ _
end Seg
end Go.Proofs.Ytaljjmodabjaeaa
