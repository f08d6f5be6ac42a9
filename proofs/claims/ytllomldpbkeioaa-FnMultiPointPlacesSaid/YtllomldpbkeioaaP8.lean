/- The law of the places of several points, walked. -/
import Derived.Test.YtllomldpbkeioaaP7
import Derived.Test.YtllomldpbkeioaaPL
import Derived.Test.YtllomldpbkeioaaG16
namespace Go.Proofs.Ytllomldpbkeioaa
open Go.RowKit Go.Sort
namespace MpP
open Geo SeqF
set_option linter.unusedSimpArgs false
set_option maxHeartbeats 2000000 in
theorem mpdc_any (d : Int) (ns : List Nat) (kids : List G) (A : Option Addr) (c : Nat) (A' : Option Addr) (c' : Nat) (hkl : kids.length ≤ 2000) (hkn : ∀ k ∈ kids, k.nums.length ≤ 2000) (w : World) (hg : GM w w.heap.size (.mk 4 d ns kids) A c A' c') :
    Calls Try.prog 26 #[GV (.mk 4 d ns kids) A c A' c'] w fun r w' => GR (.mk 2 (newG (.mk 4 d ns kids)).dim (allN (newG (.mk 4 d ns kids))) []) r w' ∧ Below w.heap.size w w' := by
  obtain ⟨hdim, hall⟩ := mp_law d ns kids
  rw [hdim, hall]
  have hD : mpD d (ptsOf kids) < 4 := by
    unfold mpD
    split
    · exact dim3_lt _
    · exact andD_lt _
  have s1 := fun (w' : World) (hb : Below w.heap.size w w') => multipoint_any d ns kids A c A' c' hkl hkn w' (hg.mov hb hb.size)
  have hLd : ∀ q ∈ (ptsOf kids).map (forceP (mpD d (ptsOf kids))), q.d = mpD d (ptsOf kids) := fun q hq => by
    obtain ⟨x, _, rfl⟩ := List.mem_map.1 hq
    rfl
  have hLl : ((ptsOf kids).map (forceP (mpD d (ptsOf kids)))).length ≤ 2000 := by
    rw [List.length_map]
    unfold ptsOf
    rw [List.length_map]
    exact Nat.le_trans (List.length_filter_le _ _) hkl
  generalize (ptsOf kids).map (forceP (mpD d (ptsOf kids))) = L at *
  generalize mpD d (ptsOf kids) = D at *
  have s2 := fun A c w hA => mpdump_any L D hD hLd A c hLl w hA
  have hnl := ptNums_len L fun q hq => by rw [hLd q hq]; exact hD
  have hmod := ptNums_mod hD L hLd
  have s3 := fun A c w hA => plainseq_any D hD (ptNums L) A c (by omega) w hA
  rw [nums_places hD hmod] at s3
  generalize ptNums L = R at *
  rw [show GV (.mk 4 d ns kids) A c A' c' = .agg #[.int .i64 4, .int .i64 d, .slice A ns.length c, .slice A' kids.length c'] from rfl] at *
  have hb0 := b_alloc (b_alloc (Below.refl w.heap.size w) (.cells #[.int .i64 4, .int .i64 d, .slice A ns.length c, .slice A' kids.length c'] 26)) (.cells #[.int .i64 0, .int .i64 0, .slice none 0 0, .slice none 0 0] 26)
  have kk := Blk.newAt (w.alloc (.cells #[.int .i64 4, .int .i64 d, .slice A ns.length c, .slice A' kids.length c'] 26)) 26 #[.int .i64 0, .int .i64 0, .slice none 0 0, .slice none 0 0] (n := w.heap.size + 1) (by simp)
  unfold MVR at s1
  unfold SR SV at s2
  unfold SV at s3
  unfold GR GV gCells at *
  simp only [show ∀ (x : Int) (y : List Nat), (G.mk 2 x y []).kind = 2 from fun _ _ => rfl, show ∀ (x : Int) (y : List Nat), (G.mk 2 x y []).dim = x from fun _ _ => rfl, show ∀ (x : Int) (y : List Nat), (G.mk 2 x y []).nums = y from fun _ _ => rfl, show ∀ (x : Int) (y : List Nat), (G.mk 2 x y []).kids = [] from fun _ _ => rfl, List.length_nil, c0] at *
  have S1 := Lib.hid s1
  have S2 := Lib.hid s2
  have S3 := Lib.hid s3
  clear s1 s2 s3 hg hnl hmod hLd hLl hdim hall
  go_enter Try.func26, Try.ntmps26
  go_wp2_with fail
  refine (S1.out _ hb0).mono ?_
  rintro e w1 ⟨⟨A1, c1, rfl, hp1⟩, hb1⟩
  have kk := kk.stay hb1
  have hB := b_trans hb0 hb1
  go_wp2_with fail
  refine (S2.out _ _ _ hp1).mono ?_
  rintro e w2 ⟨⟨A2, c2, rfl, hc2, hf2⟩, hb2⟩
  have kk := kk.stay hb2
  have hB := b_trans hB hb2
  go_wp2_with fail
  refine (S3.out _ _ _ hf2).mono ?_
  rintro e w5 ⟨⟨A5, c5, A6, c6, rfl, hg⟩, hb5⟩
  have k2 := kk.stay hb5
  have hB2 := b_trans hB hb5
  have p0 := k2.cell 0
  have p1 := k2.cell 1
  have p2 := k2.cell 2
  have p3 := k2.cell 3
  have fz := k2.frozen
  simp at p0 p1 p2 p3
  obtain ⟨h1, h2, h3, _⟩ := hg.parts
  have ho := h1.off k2 (by simp [noF])
  simp only [G.kind, G.dim, G.nums, G.kids] at h1 h2 h3 ho
  clear S1 S2 S3 hg
  go_wp2
  refine bodyPost_ret (v := .agg #[.int .i64 2, .int .i64 D, .slice A5 R.length c5, .slice A6 0 c6]) (by simp [results, Try.results26, go_sem, p0, p1, p2, p3]) rfl ⟨⟨_, _, _, _, rfl, ?_⟩, ?_⟩
  · exact GM.of (((((h1.set ho _ _).set ho _ _).set ho _ _).set ho _ _).up (by simp)) h2 h3 (Gs.nil _ _ _)
  · exact b_set (b_set (b_set (b_set hB2 _ (Nat.le_succ _) _) _ (Nat.le_succ _) _) _ (Nat.le_succ _) _) _ (Nat.le_succ _) _
theorem ksmall_any (kd : Int) (g : G) (A : Option Addr) (c : Nat) (A' : Option Addr) (c' : Nat) (w : World) (hg : GM w w.heap.size g A c A' c') :
    Calls Try.prog 25 #[GV g A c A' c', .int .i64 kd] w fun r w' => r = .returned (.bool (decide (g.kind = kd) && smallB g)) ∧ Below w.heap.size w w' := by
  have hb0 := b_alloc (b_alloc (Below.refl w.heap.size w) (.cells (gCells g A c A' c') 26)) (.cells (gCells g A c A' c') 26)
  have k1 := Blk.newAt (w.alloc (.cells (gCells g A c A' c') 26)) 26 (gCells g A c A' c') (n := w.heap.size + 1) (by simp)
  have s1 := small1_any g A c A' c' _ (hg.mov hb0 hb0.size) k1
  unfold GV gCells at *
  have S1 := Lib.hid s1
  clear s1 hg
  generalize smallB g = B at *
  generalize g.kind = k at *
  by_cases q1 : k = kd
  · subst q1
    rw [decide_eq_true rfl, Bool.true_and]
    go_enter Try.func25, Try.ntmps25
    go_wp2_with fail
    refine S1.out.mono ?_
    rintro e w1 ⟨rfl, hb1⟩
    have hB := b_trans hb0 hb1
    go_wp2_with fail
    go_ret
    exact ⟨rfl, hB⟩
  · rw [decide_eq_false q1, Bool.false_and]
    have qb : (k == kd) = false := beq_eq_false_iff_ne.2 q1
    clear S1 k1 hb0
    go_enter Try.func25, Try.ntmps25
    go_wp2_with fail
    go_ret
    refine ⟨by simp [qb], ?_⟩
    (repeat (first | exact Below.refl _ _ | refine b_alloc ?_ _ | refine b_drew ?_ | refine b_drewN ?_ _ | refine b_set ?_ _ (by first | (simp; done) | (simp; omega) | assumption | (dsimp only; omega)) _ | refine b_trans ?_ (by assumption)))
end MpP
end Go.Proofs.Ytllomldpbkeioaa
