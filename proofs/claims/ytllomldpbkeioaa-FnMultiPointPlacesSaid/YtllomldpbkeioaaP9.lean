/- The law of the places of several points: for every geometry the walk ends in true. -/
import Derived.Test.YtllomldpbkeioaaP8
namespace Go.Proofs.Ytllomldpbkeioaa
open Go.RowKit Go.Sort
namespace MpP
open Geo SeqF
set_option linter.unusedSimpArgs false
set_option maxHeartbeats 4000000 in
theorem walk (g : G) (A : Option Addr) (c : Nat) (A' : Option Addr) (c' : Nat) (w : World) (hg : GM w w.heap.size g A c A' c') :
    Calls Try.prog 7 #[GV g A c A' c'] w fun r w' => r = .returned (.bool true) ∧ Below w.heap.size w w' := by
  have hb0 := b_alloc (Below.refl w.heap.size w) (.cells (gCells g A c A' c') 26)
  have k0 := Blk.newAt w 26 (gCells g A c A' c') rfl
  have s1 := fun w => fits2_any g A c A' c' w
  have s2 := fun (w' : World) (hb : Below w.heap.size w w') => ksmall_any 4 g A c A' c' w' (hg.mov hb hb.size)
  cases hF : (decide (g.nums.length ≤ 2147483647) && decide (g.kids.length ≤ 2147483647))
  · rw [hF] at s1
    unfold GV gCells at *
    have S1 := Lib.hid s1
    clear s1 s2 hg
    go_enter Try.func7, Try.ntmps7
    go_wp2_with fail
    refine (S1.out _).mono ?_
    rintro e w1 ⟨rfl, hb1⟩
    have hB := b_trans hb0 hb1
    go_wp2_with fail
    go_ret
    exact ⟨rfl, hB⟩
  · rw [hF] at s1
    clear hF
    cases hK : (decide (g.kind = 4) && smallB g)
    · rw [hK] at s2
      unfold GV gCells at *
      have S1 := Lib.hid s1
      have S2 := Lib.hid s2
      clear s1 s2 hg hK
      go_enter Try.func7, Try.ntmps7
      go_wp2_with fail
      refine (S1.out _).mono ?_
      rintro e w1 ⟨rfl, hb1⟩
      have k0 := k0.stay hb1
      have hB := b_trans hb0 hb1
      go_wp2_with fail
      have o0 := k0.cell 0
      have o1 := k0.cell 1
      have o2 := k0.cell 2
      have o3 := k0.cell 3
      simp at o0 o1 o2 o3
      have z0 := k0.lt
      have cq := fun p => Calls.inClassG (w := w1) (fun w' hb => S2.out w' (b_trans hB hb)) p
      refine wp_region_below (by kernel_rfl) (by kernel_rfl) ?_
      repeat (go_big_quiet_step ((with_reducible exact cq _)))
      refine wpQuiet_nil ?_
      intro w3 hb3
      go_wp2_with fail
      go_ret
      exact ⟨rfl, b_trans hB hb3⟩
    · rw [hK] at s2
      simp only [Bool.and_eq_true, decide_eq_true_eq] at hK
      obtain ⟨hk, hsm⟩ := hK
      have hsz := wtL_small (of_decide_eq_true hsm)
      have hsm' := sz_small g hsz
      obtain ⟨k, d, ns, kids⟩ := g
      simp only [G.kind] at hk
      subst hk
      obtain ⟨⟨hns, hkl⟩, hkall⟩ := (allG_iff _ _ _ _ _).1 hsm'
      have hkn : ∀ x ∈ kids, x.nums.length ≤ 2000 := fun x hx => by
        have := hkall x hx
        obtain ⟨k', d', ns', ks'⟩ := x
        exact ((allG_iff _ _ _ _ _).1 this).1.1
      have s3 := fun (w' : World) (hb : Below w.heap.size w w') => mpdc_any d ns kids A c A' c' hkl hkn w' (hg.mov hb hb.size)
      have s4 := fun (w' : World) (hb : Below w.heap.size w w') => new_any (.mk 4 d ns kids) hsm' A c A' c' w' (hg.mov hb hb.size)
      obtain ⟨e, he, hde, hone⟩ := new_oneD (.mk 4 d ns kids) hsm'
      have hlen : (allN (newG (.mk 4 d ns kids))).length ≤ 2000 := Nat.le_trans (Nat.le_trans (new_allN _ hsm') (allN_sz _)) hsz
      have s5 := fun A c A' c' w h => dumpc_any (newG (.mk 4 d ns kids)) (oneD_small _ hone) (by omega) A c A' c' w h
      generalize hR : allN (newG (.mk 4 d ns kids)) = R at *
      generalize newG (.mk 4 d ns kids) = ng at *
      have s6 := fun A c A' c' E e E' e' w h1 h2 => samegeom_any (.mk 2 ng.dim R []) (.mk 2 ng.dim R []) A c A' c' E e E' e' w (by rw [sz_leaf]; omega) h1 h2
      rw [sameG_refl] at s6
      clear hg hns hkl hkall hkn hlen hone hde he hsm' hsz hsm hR
      rw [show GV (.mk 4 d ns kids) A c A' c' = .agg #[.int .i64 4, .int .i64 d, .slice A ns.length c, .slice A' kids.length c'] from rfl] at *
      unfold gCells at k0 hb0
      simp only [G.kind, G.dim, G.nums, G.kids] at k0 hb0
      unfold GR at s3
      unfold GRz at s4 s5
      unfold GV gCells at s3 s4 s5 s6
      simp only [show ∀ (x : Int) (y : List Nat), (G.mk 2 x y []).kind = 2 from fun _ _ => rfl, show ∀ (x : Int) (y : List Nat), (G.mk 2 x y []).dim = x from fun _ _ => rfl, show ∀ (x : Int) (y : List Nat), (G.mk 2 x y []).nums = y from fun _ _ => rfl, show ∀ (x : Int) (y : List Nat), (G.mk 2 x y []).kids = [] from fun _ _ => rfl, List.length_nil, c0] at s3 s5 s6
      have S1 := Lib.hid s1
      have S2 := Lib.hid s2
      have S3 := Lib.hid s3
      have S4 := Lib.hid s4
      have S5 := Lib.hid s5
      have S6 := Lib.hid s6
      clear s1 s2 s3 s4 s5 s6
      go_enter Try.func7, Try.ntmps7
      go_wp2_with fail
      refine (S1.out _).mono ?_
      rintro e w1 ⟨rfl, hb1⟩
      have k0 := k0.stay hb1
      have hB := b_trans hb0 hb1
      have hSt := And.intro hB (And.intro k0 trivial)
      go_wp2_with fail
      go_region_held3 (fun w' => Below w.heap.size w w' ∧ Blk w' (w.heap.size) 26 #[.int .i64 4, .int .i64 d, .slice A ns.length c, .slice A' kids.length c'] ∧ w'.cell? ⟨w.heap.size, 0, none⟩ = some (.int .i64 4) ∧ w'.cell? ⟨w.heap.size, 1, none⟩ = some (.int .i64 d) ∧ w'.cell? ⟨w.heap.size, 2, none⟩ = some (.slice A ns.length c) ∧ w'.cell? ⟨w.heap.size, 3, none⟩ = some (.slice A' kids.length c'))
        (first | ((obtain ⟨hB', hK0', _⟩ := id (show Below w.heap.size w _ ∧ Blk _ (w.heap.size) _ _ ∧ _ by assumption)); ((repeat' apply And.intro) <;> first | with_reducible assumption | with_reducible exact b_drew (by with_reducible assumption) | with_reducible exact b_alloc (by with_reducible assumption) _ | with_reducible exact b_set (by with_reducible assumption) _ (by first | (simp; done) | (simp; omega)) _ | with_reducible exact b_trans (by with_reducible assumption) (by with_reducible assumption) | with_reducible exact Blk.drew (by with_reducible assumption) | with_reducible exact Blk.alloc (by with_reducible assumption) _ | with_reducible exact Blk.far (by with_reducible assumption) (by first | (simp; done) | (simp; omega)) _ | with_reducible exact Blk.stay (by with_reducible assumption) (by with_reducible assumption) | exact cell_of (by (first | with_reducible assumption | with_reducible exact Blk.drew (by with_reducible assumption) | with_reducible exact Blk.alloc (by with_reducible assumption) _ | with_reducible exact Blk.far (by with_reducible assumption) (by first | (simp; done) | (simp; omega)) _ | with_reducible exact Blk.stay (by with_reducible assumption) (by with_reducible assumption) | fail)) (by rfl) | fail))) (first | (go_at_call 25; (obtain ⟨hB', hK0', _⟩ := id (show Below w.heap.size w _ ∧ Blk _ (w.heap.size) _ _ ∧ _ by assumption)); refine (S2.out _ (by assumption)).mono ?_; rintro e w3 ⟨rfl, hb3⟩) | (go_at_call 26; (obtain ⟨hB', hK0', _⟩ := id (show Below w.heap.size w _ ∧ Blk _ (w.heap.size) _ _ ∧ _ by assumption)); refine (S3.out _ (by assumption)).mono ?_; rintro e w4 ⟨⟨A1, c1, A2, c2, rfl, hgm1⟩, hb4⟩) | (go_at_call 28; (obtain ⟨hB', hK0', _⟩ := id (show Below w.heap.size w _ ∧ Blk _ (w.heap.size) _ _ ∧ _ by assumption)); refine (S4.out _ (by assumption)).mono ?_; rintro e w5 ⟨⟨A3, c3, A4, c4, rfl, hgm2⟩, hb5⟩; have hgm1' := hgm1.mov hb5 hb5.size; have hgm3 := hgm2.gm Fr.lt) | (go_at_call 27; (obtain ⟨hB', hK0', _⟩ := id (show Below w.heap.size w _ ∧ Blk _ (w.heap.size) _ _ ∧ _ by assumption)); refine (S5.out _ _ _ _ _ hgm3).mono ?_; rintro e w6 ⟨⟨A5, c5, A6, c6, rfl, hgm4⟩, hb6⟩; have hgm1'' := hgm1'.mov hb6 hb6.size; have hgm5 := hgm4.gm Fr.lt) | (go_at_call 14; (obtain ⟨hB', hK0', _⟩ := id (show Below w.heap.size w _ ∧ Blk _ (w.heap.size) _ _ ∧ _ by assumption)); refine (S6.out _ _ _ _ _ _ _ _ _ hgm1'' hgm5).mono ?_; rintro e w7 ⟨rfl, hb7⟩) | fail)
      go_wp2_with fail
      go_ret
      exact ⟨rfl, b_trans hB' hb7⟩
end MpP
end Go.Proofs.Ytllomldpbkeioaa
