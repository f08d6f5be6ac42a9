/- The law of a sequence under another type of coordinates, walked. -/
import Derived.Test.YtllomldpbkeioaaG14
import Derived.Deep.RegionHeld3
namespace Go.Proofs.Ytllomldpbkeioaa
open Go.RowKit Go.Sort
namespace SeqF
open Geo
set_option linter.unusedSimpArgs false
theorem sz_leaf (k d : Int) (ns : List Nat) : sz (.mk k d ns []) = 1 + ns.length := by unfold sz; simp [szL]
set_option maxHeartbeats 2000000 in
theorem walk (g : G) (A : Option Addr) (c : Nat) (A' : Option Addr) (c' : Nat) (dim : Int) (w : World) (hg : GM w w.heap.size g A c A' c') :
    Calls Try.prog 4 #[GV g A c A' c', .int .i64 dim] w fun r w' => r = .returned (.bool true) ∧ Below w.heap.size w w' := by
  have hb0 := b_alloc (Below.refl w.heap.size w) (.cells (gCells g A c A' c') 26)
  have k0 := Blk.newAt w 26 (gCells g A c A' c') rfl
  have s1 := fun w => fits2_any g A c A' c' w
  have s2 := fun (w' : World) (hb : Below w.heap.size w w') => gline_any g A c A' c' w' (hg.mov hb hb.size)
  cases hF : (decide (g.nums.length ≤ 2147483647) && decide (g.kids.length ≤ 2147483647))
  · rw [hF] at s1
    unfold GV gCells at *
    have S1 := Lib.hid s1
    clear s1 s2 hg
    go_enter Try.func4, Try.ntmps4
    go_wp2_with fail
    refine (S1.out _).mono ?_
    rintro e w1 ⟨rfl, hb1⟩
    have hB := b_trans hb0 hb1
    go_wp2_with fail
    go_ret
    exact ⟨rfl, hB⟩
  · rw [hF] at s1
    clear hF
    by_cases hyes : smallB g = true ∧ g.kind = 2
    · by_cases q1 : 0 ≤ dim
      · by_cases q2 : dim ≤ 3
        · obtain ⟨hsm, hk⟩ := hyes
          have hsz := wtL_small (of_decide_eq_true hsm)
          have hns : g.nums.length ≤ 2000 := by
            obtain ⟨k, d, ns, kids⟩ := g
            unfold sz at hsz; simp only [G.nums]; omega
          have hlf : lineF g = whole (dim3 g.dim) g.nums := by unfold lineF; rw [if_pos hk]
          have hfl : forceL g dim = numsF (dim3 dim) (placesF (dim3 g.dim) (whole (dim3 g.dim) g.nums)) := by unfold forceL; rw [hlf]
          have hd3 : (dim3 dim : Int) = dim := by unfold dim3; omega
          have s3 := fun (w' : World) (hb : Below w.heap.size w w') => seqforce_any g A c A' c' dim (by omega) w' (hg.mov hb hb.size)
          rw [hfl] at s3
          have hwl := whole_length (dim3 g.dim) g.nums
          have hwl2 := div_mul_le' g.nums.length (wd (dim3 g.dim))
          have hpl := placesF_len2 (dim3 g.dim) (whole (dim3 g.dim) g.nums)
          have s4 := fun A c w hA => nums_any (dim3 dim) (dim3_lt dim) (placesF (dim3 g.dim) (whole (dim3 g.dim) g.nums)) A c (by omega) w hA
          have hnl := numsF_length (dim3_lt dim) (placesF (dim3 g.dim) (whole (dim3 g.dim) g.nums))
          have hw4 := (wd_le (dim3 dim)).2
          have hnl2 : (numsF (dim3 dim) (placesF (dim3 g.dim) (whole (dim3 g.dim) g.nums))).length ≤ 8000 := by
            rw [hnl]
            exact Nat.le_trans (Nat.mul_le_mul_left _ hw4) (by omega)
          have HS2 := Lib.hid s2
          unfold GLR at s2
          simp only [hsm, hk, and_self, if_true] at s2
          rw [hd3] at s3 s4
          generalize placesF (dim3 g.dim) (whole (dim3 g.dim) g.nums) = P at *
          generalize numsF (dim3 dim) P = R at *
          have s5 := fun A c A' c' E e E' e' w h1 h2 => samegeom_any (.mk 2 dim R []) (.mk 2 dim R []) A c A' c' E e E' e' w (by rw [sz_leaf]; omega) h1 h2
          rw [sameG_refl] at s5
          clear HS2 hwl hwl2 hpl hnl hw4 hnl2 hfl hlf hns hsz hsm hk hg
          unfold GR at s3
          unfold FsR at s4
          unfold GV gCells at *
          simp only [G.kind, G.dim, G.nums, G.kids, List.length_nil, c0] at *
          have S1 := Lib.hid s1
          have S2 := Lib.hid s2
          have S3 := Lib.hid s3
          have S4 := Lib.hid s4
          have S5 := Lib.hid s5
          clear s1 s2 s3 s4 s5
          go_enter Try.func4, Try.ntmps4
          go_wp2_with fail
          refine (S1.out _).mono ?_
          rintro e w1 ⟨rfl, hb1⟩
          have k0 := k0.stay hb1
          have hB := b_trans hb0 hb1
          have o0 := k0.cell 0
          have o1 := k0.cell 1
          have o2 := k0.cell 2
          have o3 := k0.cell 3
          simp at o0 o1 o2 o3
          go_wp2_with fail
          refine (S2.out _ hB).mono ?_
          rintro e w2 ⟨⟨A2, c2, rfl, hps⟩, hb2⟩
          have k0 := k0.stay hb2
          have hB := b_trans hB hb2
          have o0 := k0.cell 0
          have o1 := k0.cell 1
          have o2 := k0.cell 2
          have o3 := k0.cell 3
          simp at o0 o1 o2 o3
          go_wp2_with fail
          refine (S3.out _ hB).mono ?_
          rintro e w3 ⟨⟨A3, c3, A4, c4, rfl, hgm⟩, hb3⟩
          have hps := hps.below hb3 hb3.size
          have hB := b_trans hB hb3
          go_wp2_with fail
          refine (S4.out _ _ _ hps).mono ?_
          rintro e w4 ⟨⟨A5, c5, rfl, hc5, hfs⟩, hb4⟩
          have hgm := hgm.mov hb4 hb4.size
          have hB := b_trans hB hb4
          have hgm2 : GM w4 w4.heap.size (.mk 2 dim R []) A5 c5 none 0 := GM.of hfs hc5 (Nat.le_refl _) (Gs.nil _ _ _)
          go_wp2_with fail
          refine (S5.out _ _ _ _ _ _ _ _ _ hgm hgm2).mono ?_
          rintro e w5 ⟨rfl, hb5⟩
          have hB := b_trans hB hb5
          go_wp2_with fail
          go_ret
          exact ⟨rfl, hB⟩
        · obtain ⟨hsm, hk⟩ := hyes
          unfold GLR at s2
          simp only [hsm, hk, and_self, if_true] at s2
          generalize placesF (dim3 g.dim) (whole (dim3 g.dim) g.nums) = P at *
          unfold GV gCells at *
          have S1 := Lib.hid s1
          have S2 := Lib.hid s2
          clear s1 s2 hg hk hsm
          go_enter Try.func4, Try.ntmps4
          go_wp2_with fail
          refine (S1.out _).mono ?_
          rintro e w1 ⟨rfl, hb1⟩
          have k0 := k0.stay hb1
          have hB := b_trans hb0 hb1
          have o0 := k0.cell 0
          have o1 := k0.cell 1
          have o2 := k0.cell 2
          have o3 := k0.cell 3
          simp at o0 o1 o2 o3
          go_wp2_with fail
          refine (S2.out _ hB).mono ?_
          rintro e w2 ⟨⟨A2, c2, rfl, hps⟩, hb2⟩
          have hB := b_trans hB hb2
          go_wp2_with fail
          go_ret
          exact ⟨rfl, hB⟩
      · obtain ⟨hsm, hk⟩ := hyes
        unfold GLR at s2
        simp only [hsm, hk, and_self, if_true] at s2
        generalize placesF (dim3 g.dim) (whole (dim3 g.dim) g.nums) = P at *
        unfold GV gCells at *
        have S1 := Lib.hid s1
        have S2 := Lib.hid s2
        clear s1 s2 hg hk hsm
        go_enter Try.func4, Try.ntmps4
        go_wp2_with fail
        refine (S1.out _).mono ?_
        rintro e w1 ⟨rfl, hb1⟩
        have k0 := k0.stay hb1
        have hB := b_trans hb0 hb1
        have o0 := k0.cell 0
        have o1 := k0.cell 1
        have o2 := k0.cell 2
        have o3 := k0.cell 3
        simp at o0 o1 o2 o3
        go_wp2_with fail
        refine (S2.out _ hB).mono ?_
        rintro e w2 ⟨⟨A2, c2, rfl, hps⟩, hb2⟩
        have hB := b_trans hB hb2
        go_wp2_with fail
        go_ret
        exact ⟨rfl, hB⟩
    · unfold GLR at s2
      simp only [hyes, if_false] at s2
      unfold GV gCells at *
      have S1 := Lib.hid s1
      have S2 := Lib.hid s2
      clear s1 s2 hg
      go_enter Try.func4, Try.ntmps4
      go_wp2_with fail
      refine (S1.out _).mono ?_
      rintro e w1 ⟨rfl, hb1⟩
      have k0 := k0.stay hb1
      have hB := b_trans hb0 hb1
      have o0 := k0.cell 0
      have o1 := k0.cell 1
      have o2 := k0.cell 2
      have o3 := k0.cell 3
      simp at o0 o1 o2 o3
      go_wp2_with fail
      refine (S2.out _ hB).mono ?_
      rintro e w2 ⟨rfl, hb2⟩
      have hB := b_trans hB hb2
      go_wp2_with fail
      go_ret
      exact ⟨rfl, hB⟩
end SeqF
end Go.Proofs.Ytllomldpbkeioaa
