/- The law of a line string under another type of coordinates, walked. -/
import Derived.Test.YtllomldpbkeioaaG15
import Derived.Deep.RegionHeld3
namespace Go.Proofs.Ytllomldpbkeioaa
open Go.RowKit Go.Sort
namespace LineFo
open Geo SeqF
set_option linter.unusedSimpArgs false
theorem gcell_all {w : World} {b : Nat} {t : TypeId} {k d : Int} {A : Option Addr} {n c : Nat} {A' : Option Addr} {m c' : Nat} (h : Blk w b t #[.int .i64 k, .int .i64 d, .slice A n c, .slice A' m c']) :
    w.cell? ⟨b, 0, none⟩ = some (.int .i64 k) ∧ w.cell? ⟨b, 1, none⟩ = some (.int .i64 d) ∧ w.cell? ⟨b, 2, none⟩ = some (.slice A n c) ∧ w.cell? ⟨b, 3, none⟩ = some (.slice A' m c') :=
  ⟨by rw [h.cell]; rfl, by rw [h.cell]; rfl, by rw [h.cell]; rfl, by rw [h.cell]; rfl⟩
set_option maxHeartbeats 2000000 in
theorem kforce2_any (d dim : Int) (ns : List Nat) (kids : List G) (hd0 : 0 ≤ dim) (hd3 : dim ≤ 3) (A : Option Addr) (c : Nat) (A' : Option Addr) (c' : Nat) (E : Option Addr) (e : Nat) (E' : Option Addr) (e' : Nat) (hm : ns.length ≤ 2000) (w : World)
    (hi : GM w w.heap.size (.mk 2 dim (numsF (dim3 dim) (placesF (dim3 d) (whole (dim3 d) ns))) []) E e E' e') (hg : GM w w.heap.size (.mk 2 d ns kids) A c A' c') :
    Calls Try.prog 18 #[GV (.mk 2 dim (numsF (dim3 dim) (placesF (dim3 d) (whole (dim3 d) ns))) []) E e E' e', GV (.mk 2 d ns kids) A c A' c', .int .i64 dim] w fun r w' => r = .returned (.bool true) ∧ Below w.heap.size w w' := by
  have hdd : (dim3 dim : Int) = dim := by unfold dim3; omega
  have hwl := whole_length (dim3 d) ns
  have hwl2 := div_mul_le' ns.length (wd (dim3 d))
  have hpl := placesF_len2 (dim3 d) (whole (dim3 d) ns)
  have hnl := numsF_length (dim3_lt dim) (placesF (dim3 d) (whole (dim3 d) ns))
  have hw4 := (wd_le (dim3 dim)).2
  have hnl2 : (numsF (dim3 dim) (placesF (dim3 d) (whole (dim3 d) ns))).length ≤ 8000 := by
    rw [hnl]
    exact Nat.le_trans (Nat.mul_le_mul_left _ hw4) (by omega)
  have s1 := fun (w' : World) (hb : Below w.heap.size w w') => newline2_any d ns kids A c A' c' (by omega) w' (hg.mov hb hb.size)
  have s2 := fun A c A' c' w (h : GM w w.heap.size (.mk 2 (dim3 d) (whole (dim3 d) ns) []) A c A' c') => sforceleaf_any 2 (dim3 d) (dim3 dim) (dim3_lt d) (dim3_lt dim) (whole (dim3 d) ns) A c A' c' (by omega) w h.parts.1
  unfold newLine at s1
  rw [hdd] at s2
  generalize numsF (dim3 dim) (placesF (dim3 d) (whole (dim3 d) ns)) = R at *
  generalize whole (dim3 d) ns = W at *
  have s3 := fun (w' : World) (hb : Below w.heap.size w w') A c A' c' h2 => samegeom_any (.mk 2 dim R []) (.mk 2 dim R []) E e E' e' A c A' c' w' (by rw [sz_leaf]; omega) (hi.mov hb hb.size) h2
  rw [sameG_refl] at s3
  have hb0 := b_alloc (b_alloc (Below.refl w.heap.size w) (.cells (gCells (.mk 2 dim R []) E e E' e') 26)) (.cells (gCells (.mk 2 d ns kids) A c A' c') 26)
  have k0 := (Blk.newAt w 26 (gCells (.mk 2 dim R []) E e E' e') rfl).alloc (.cells (gCells (.mk 2 d ns kids) A c A' c') 26)
  have k1 := Blk.newAt (w.alloc (.cells (gCells (.mk 2 dim R []) E e E' e') 26)) 26 (gCells (.mk 2 d ns kids) A c A' c') (n := w.heap.size + 1) (by simp)
  clear hi hg hnl hw4 hnl2 hwl hwl2 hpl hdd
  unfold GR GV gCells at *
  simp only [G.kind, G.dim, G.nums, G.kids, List.length_nil, c0] at *
  have S1 := Lib.hid s1
  have S2 := Lib.hid s2
  have S3 := Lib.hid s3
  clear s1 s2 s3
  have hSt := And.intro hb0 (And.intro k0 (And.intro k1 trivial))
  go_enter Try.func18, Try.ntmps18
  go_wp2_with fail
  go_region_held3 (fun w' => Below w.heap.size w w' ∧ Blk w' (w.heap.size) 26 #[.int .i64 2, .int .i64 dim, .slice E R.length e, .slice E' 0 e'] ∧ Blk w' (w.heap.size + 1) 26 #[.int .i64 2, .int .i64 d, .slice A ns.length c, .slice A' kids.length c'] ∧ w'.cell? ⟨w.heap.size, 0, none⟩ = some (.int .i64 2) ∧ w'.cell? ⟨w.heap.size, 1, none⟩ = some (.int .i64 dim) ∧ w'.cell? ⟨w.heap.size, 2, none⟩ = some (.slice E R.length e) ∧ w'.cell? ⟨w.heap.size, 3, none⟩ = some (.slice E' 0 e') ∧ w'.cell? ⟨w.heap.size + 1, 0, none⟩ = some (.int .i64 2) ∧ w'.cell? ⟨w.heap.size + 1, 1, none⟩ = some (.int .i64 d) ∧ w'.cell? ⟨w.heap.size + 1, 2, none⟩ = some (.slice A ns.length c) ∧ w'.cell? ⟨w.heap.size + 1, 3, none⟩ = some (.slice A' kids.length c'))
    (first | ((obtain ⟨hB', hK0', hK1', _⟩ := id (show Below w.heap.size w _ ∧ Blk _ (w.heap.size) _ _ ∧ Blk _ (w.heap.size + 1) _ _ ∧ _ by assumption)); ((repeat' apply And.intro) <;> first | with_reducible assumption | with_reducible exact b_drew (by with_reducible assumption) | with_reducible exact b_alloc (by with_reducible assumption) _ | with_reducible exact b_set (by with_reducible assumption) _ (by first | (simp; done) | (simp; omega)) _ | with_reducible exact b_trans (by with_reducible assumption) (by with_reducible assumption) | with_reducible exact Blk.drew (by with_reducible assumption) | with_reducible exact Blk.alloc (by with_reducible assumption) _ | with_reducible exact Blk.far (by with_reducible assumption) (by first | (simp; done) | (simp; omega)) _ | with_reducible exact Blk.stay (by with_reducible assumption) (by with_reducible assumption) | exact cell_of (by (first | with_reducible assumption | with_reducible exact Blk.drew (by with_reducible assumption) | with_reducible exact Blk.alloc (by with_reducible assumption) _ | with_reducible exact Blk.far (by with_reducible assumption) (by first | (simp; done) | (simp; omega)) _ | with_reducible exact Blk.stay (by with_reducible assumption) (by with_reducible assumption) | fail)) (by rfl) | fail))) (first | (go_at_call 28; (obtain ⟨hB', hK0', hK1', _⟩ := id (show Below w.heap.size w _ ∧ Blk _ (w.heap.size) _ _ ∧ Blk _ (w.heap.size + 1) _ _ ∧ _ by assumption)); refine (S1.out _ (by assumption)).mono ?_; rintro e w1 ⟨⟨A1, c1, A2, c2, rfl, hgm1⟩, hb1⟩) | (go_at_call 41; (obtain ⟨hB', hK0', hK1', _⟩ := id (show Below w.heap.size w _ ∧ Blk _ (w.heap.size) _ _ ∧ Blk _ (w.heap.size + 1) _ _ ∧ _ by assumption)); refine (S2.out _ _ _ _ _ (by assumption)).mono ?_; rintro e w2 ⟨⟨A3, c3, A4, c4, rfl, hgm2⟩, hb2⟩) | (go_at_call 14; (obtain ⟨hB', hK0', hK1', _⟩ := id (show Below w.heap.size w _ ∧ Blk _ (w.heap.size) _ _ ∧ Blk _ (w.heap.size + 1) _ _ ∧ _ by assumption)); refine (S3.out _ (by assumption) _ _ _ _ (by assumption)).mono ?_; rintro e w3 ⟨rfl, hb3⟩) | fail)
  go_wp2_with fail
  go_ret
  exact ⟨rfl, b_trans hB' hb3⟩
set_option maxHeartbeats 2000000 in
theorem walk (g : G) (A : Option Addr) (c : Nat) (A' : Option Addr) (c' : Nat) (dim : Int) (w : World) (hg : GM w w.heap.size g A c A' c') :
    Calls Try.prog 5 #[GV g A c A' c', .int .i64 dim] w fun r w' => r = .returned (.bool true) ∧ Below w.heap.size w w' := by
  have hb0 := b_alloc (Below.refl w.heap.size w) (.cells (gCells g A c A' c') 26)
  have k0 := Blk.newAt w 26 (gCells g A c A' c') rfl
  have s1 := fun w => fits2_any g A c A' c' w
  have s2 := fun (w' : World) (hb : Below w.heap.size w w') => kdim2_any g A c A' c' dim w' (hg.mov hb hb.size)
  cases hF : (decide (g.nums.length ≤ 2147483647) && decide (g.kids.length ≤ 2147483647))
  · rw [hF] at s1
    unfold GV gCells at *
    have S1 := Lib.hid s1
    clear s1 s2 hg
    go_enter Try.func5, Try.ntmps5
    go_wp2_with fail
    refine (S1.out _).mono ?_
    rintro e w1 ⟨rfl, hb1⟩
    have hB := b_trans hb0 hb1
    go_wp2_with fail
    go_ret
    exact ⟨rfl, hB⟩
  · rw [hF] at s1
    clear hF
    cases hK : (decide (g.kind = 2) && (smallB g && (decide (0 ≤ dim) && decide (dim ≤ 3))))
    · rw [hK] at s2
      unfold GV gCells at *
      have S1 := Lib.hid s1
      have S2 := Lib.hid s2
      clear s1 s2 hg hK
      go_enter Try.func5, Try.ntmps5
      go_wp2_with fail
      refine (S1.out _).mono ?_
      rintro e w1 ⟨rfl, hb1⟩
      have k0 := k0.stay hb1
      have hB := b_trans hb0 hb1
      go_wp2_with fail
      have o0 := k0.cell 0
      have o1 := k0.cell 1
      have o2 := k0.cell 2
      have o3 := k0.cell 3
      simp at o0 o1 o2 o3
      have z0 := k0.lt
      have cq := fun p => Calls.inClassG (w := w1) (fun w' hb => S2.out w' (b_trans hB hb)) p
      refine wp_region_below (by kernel_rfl) (by kernel_rfl) ?_
      repeat (go_big_quiet_step ((with_reducible exact cq _)))
      refine wpQuiet_nil ?_
      intro w3 hb3
      go_wp2_with fail
      go_ret
      exact ⟨rfl, b_trans hB hb3⟩
    · rw [hK] at s2
      simp only [Bool.and_eq_true, decide_eq_true_eq] at hK
      obtain ⟨hk, hsm, q1, q2⟩ := hK
      obtain ⟨k, d, ns, kids⟩ := g
      simp only [G.kind] at hk
      subst hk
      have hsz := wtL_small (of_decide_eq_true hsm)
      have hns : ns.length ≤ 2000 := by unfold sz at hsz; omega
      have hlf : lineF (.mk 2 d ns kids) = whole (dim3 d) ns := rfl
      have hfl : forceL (.mk 2 d ns kids) dim = numsF (dim3 dim) (placesF (dim3 d) (whole (dim3 d) ns)) := rfl
      have hd3 : (dim3 dim : Int) = dim := by unfold dim3; omega
      have s3 := fun (w' : World) (hb : Below w.heap.size w w') => lineforce_any (.mk 2 d ns kids) A c A' c' dim (by simp only [G.nums]; omega) w' (hg.mov hb hb.size)
      have s4 := fun E e E' e' (w' : World) (hb : Below w.heap.size w w') hi => kforce2_any d dim ns kids q1 q2 A c A' c' E e E' e' hns w' hi (hg.mov hb hb.size)
      rw [hfl, hd3] at s3
      generalize numsF (dim3 dim) (placesF (dim3 d) (whole (dim3 d) ns)) = R at *
      clear hfl hlf hd3 hns hsz hsm q1 q2 hg
      unfold GR at s3
      unfold GV gCells at *
      simp only [G.kind, G.dim, G.nums, G.kids, List.length_nil, c0] at *
      have S1 := Lib.hid s1
      have S2 := Lib.hid s2
      have S3 := Lib.hid s3
      have S4 := Lib.hid s4
      clear s1 s2 s3 s4
      go_enter Try.func5, Try.ntmps5
      go_wp2_with fail
      refine (S1.out _).mono ?_
      rintro e w1 ⟨rfl, hb1⟩
      have k0 := k0.stay hb1
      have hB := b_trans hb0 hb1
      have hSt := And.intro hB (And.intro k0 trivial)
      go_wp2_with fail
      go_region_held3 (fun w' => Below w.heap.size w w' ∧ Blk w' (w.heap.size) 26 #[.int .i64 2, .int .i64 d, .slice A ns.length c, .slice A' kids.length c'] ∧ w'.cell? ⟨w.heap.size, 0, none⟩ = some (.int .i64 2) ∧ w'.cell? ⟨w.heap.size, 1, none⟩ = some (.int .i64 d) ∧ w'.cell? ⟨w.heap.size, 2, none⟩ = some (.slice A ns.length c) ∧ w'.cell? ⟨w.heap.size, 3, none⟩ = some (.slice A' kids.length c'))
        (first | ((obtain ⟨hB', hK0', _⟩ := id (show Below w.heap.size w _ ∧ Blk _ (w.heap.size) _ _ ∧ _ by assumption)); ((repeat' apply And.intro) <;> first | with_reducible assumption | with_reducible exact b_drew (by with_reducible assumption) | with_reducible exact b_alloc (by with_reducible assumption) _ | with_reducible exact b_set (by with_reducible assumption) _ (by first | (simp; done) | (simp; omega)) _ | with_reducible exact b_trans (by with_reducible assumption) (by with_reducible assumption) | with_reducible exact Blk.drew (by with_reducible assumption) | with_reducible exact Blk.alloc (by with_reducible assumption) _ | with_reducible exact Blk.far (by with_reducible assumption) (by first | (simp; done) | (simp; omega)) _ | with_reducible exact Blk.stay (by with_reducible assumption) (by with_reducible assumption) | exact cell_of (by (first | with_reducible assumption | with_reducible exact Blk.drew (by with_reducible assumption) | with_reducible exact Blk.alloc (by with_reducible assumption) _ | with_reducible exact Blk.far (by with_reducible assumption) (by first | (simp; done) | (simp; omega)) _ | with_reducible exact Blk.stay (by with_reducible assumption) (by with_reducible assumption) | fail)) (by rfl) | fail))) (first | (go_at_call 17; (obtain ⟨hB', hK0', _⟩ := id (show Below w.heap.size w _ ∧ Blk _ (w.heap.size) _ _ ∧ _ by assumption)); refine (S2.out _ (by assumption)).mono ?_; rintro e w3 ⟨rfl, hb3⟩) | (go_at_call 19; (obtain ⟨hB', hK0', _⟩ := id (show Below w.heap.size w _ ∧ Blk _ (w.heap.size) _ _ ∧ _ by assumption)); refine (S3.out _ (by assumption)).mono ?_; rintro e w3 ⟨⟨A1, c1, A2, c2, rfl, hgm1⟩, hb4⟩) | (go_at_call 18; (obtain ⟨hB', hK0', _⟩ := id (show Below w.heap.size w _ ∧ Blk _ (w.heap.size) _ _ ∧ _ by assumption)); refine (S4.out _ _ _ _ _ (by assumption) (by assumption)).mono ?_; rintro e w3 ⟨rfl, hb5⟩) | fail)
      go_wp2_with fail
      go_ret
      exact ⟨rfl, b_trans hB' hb5⟩
end LineFo
end Go.Proofs.Ytllomldpbkeioaa
