/- Walks: small lines and their places. -/
import Derived.Test.YtllomldpbkeioaaG13
import Derived.Deep.RegionHeld3
namespace Go.Proofs.Ytllomldpbkeioaa
open Go.RowKit Go.Sort
namespace Geo
set_option linter.unusedSimpArgs false
theorem gs_one {w : World} {b : Nat} {t : TypeId} {g : G} {A : Option Addr} {c : Nat} {A' : Option Addr} {c' : Nat} (hb : Blk w b t (gCells g A c A' c')) (hg : GM w w.heap.size g A c A' c') : Gs w w.heap.size (some ⟨b, 0, none⟩) [g] := by
  intro _
  refine ⟨b, 0, rfl, hb.lt, fun i hi => ⟨A, c, A', c', fun j hj => ?_, ?_⟩⟩
  · obtain rfl : i = 0 := by simp at hi; omega
    rw [hb.cell]
    simp
  · obtain rfl : i = 0 := by simp at hi; omega
    exact hg
def smallB (g : G) : Bool := decide (0 ≤ wtL [g] 2000)
theorem small1_any (g : G) (A : Option Addr) (c : Nat) (A' : Option Addr) (c' : Nat) (w : World) (hg : GM w w.heap.size g A c A' c') {b : Nat} {t : TypeId} (hb : Blk w b t (gCells g A c A' c')) :
    Calls Try.prog 8 #[.slice (some ⟨b, 0, none⟩) 1 1] w fun r w' => r = .returned (.bool (smallB g)) ∧ Below w.heap.size w w' :=
  small_any [g] _ 1 1 rfl (by simp) w (gs_one hb hg)
theorem b_drewN' {a w : World} (h : Below a.heap.size a w) : Below a.heap.size a w.drew := b_drew h
set_option maxHeartbeats 1000000 in
theorem kdim2_any (g : G) (A : Option Addr) (c : Nat) (A' : Option Addr) (c' : Nat) (dim : Int) (w : World) (hg : GM w w.heap.size g A c A' c') :
    Calls Try.prog 17 #[GV g A c A' c', .int .i64 2, .int .i64 dim] w fun r w' => r = .returned (.bool (decide (g.kind = 2) && (smallB g && (decide (0 ≤ dim) && decide (dim ≤ 3))))) ∧ Below w.heap.size w w' := by
  have hb0 := b_alloc (b_alloc (Below.refl w.heap.size w) (.cells (gCells g A c A' c') 26)) (.cells (gCells g A c A' c') 26)
  have k1 := Blk.newAt (w.alloc (.cells (gCells g A c A' c') 26)) 26 (gCells g A c A' c') (n := w.heap.size + 1) (by simp)
  have s1 := small1_any g A c A' c' _ (hg.mov hb0 hb0.size) k1
  unfold GV gCells at *
  have S1 := Lib.hid s1
  clear s1 hg
  generalize smallB g = B at *
  generalize g.kind = k at *
  by_cases q1 : k = 2
  · subst q1
    rw [decide_eq_true rfl, Bool.true_and]
    cases B
    · go_enter Try.func17, Try.ntmps17
      go_wp2_with fail
      refine S1.out.mono ?_
      rintro e w1 ⟨rfl, hb1⟩
      have hB := b_trans hb0 hb1
      go_wp2_with fail
      go_ret
      exact ⟨rfl, hB⟩
    · by_cases q2 : 0 ≤ dim
      · rw [decide_eq_true q2]
        by_cases q3 : dim ≤ 3
        · rw [decide_eq_true q3]
          go_enter Try.func17, Try.ntmps17
          go_wp2_with fail
          refine S1.out.mono ?_
          rintro e w1 ⟨rfl, hb1⟩
          have hB := b_trans hb0 hb1
          go_wp2_with fail
          go_ret
          exact ⟨rfl, hB⟩
        · go_enter Try.func17, Try.ntmps17
          go_wp2_with fail
          refine S1.out.mono ?_
          rintro e w1 ⟨rfl, hb1⟩
          have hB := b_trans hb0 hb1
          go_wp2_with fail
          go_ret
          exact ⟨rfl, hB⟩
      · rw [decide_eq_false q2]
        go_enter Try.func17, Try.ntmps17
        go_wp2_with fail
        refine S1.out.mono ?_
        rintro e w1 ⟨rfl, hb1⟩
        have hB := b_trans hb0 hb1
        go_wp2_with fail
        go_ret
        exact ⟨rfl, hB⟩
  · rw [decide_eq_false q1, Bool.false_and]
    clear S1 k1 hb0
    go_enter Try.func17, Try.ntmps17
    go_wp2_with fail
    go_ret
    refine ⟨rfl, ?_⟩
    (repeat (first | exact Below.refl _ _ | refine b_alloc ?_ _ | refine b_drew ?_ | refine b_drewN ?_ _ | refine b_set ?_ _ (by first | (simp; done) | (simp; omega) | assumption | (dsimp only; omega)) _ | refine b_trans ?_ (by assumption)))
/-- what 'gLine' gives -/
def GLR (g : G) (r : Ending) (w' : World) : Prop := if smallB g = true ∧ g.kind = 2 then ∃ A c, r = .returned (.tuple #[.slice A (placesF (dim3 g.dim) (whole (dim3 g.dim) g.nums)).length c, .bool true]) ∧ Ps w' w'.heap.size A (placesF (dim3 g.dim) (whole (dim3 g.dim) g.nums))
  else r = .returned (.tuple #[.slice none 0 0, .bool false])
theorem GLR_no {g : G} {r : Ending} {w' : World} (h : ¬(smallB g = true ∧ g.kind = 2)) (e : r = .returned (.tuple #[.slice none 0 0, .bool false])) : GLR g r w' := by
  unfold GLR; rw [if_neg h]; exact e
theorem GLR_yes {g : G} {r : Ending} {w' : World} (h : smallB g = true ∧ g.kind = 2) {A : Option Addr} {c : Nat} (e : r = .returned (.tuple #[.slice A (placesF (dim3 g.dim) (whole (dim3 g.dim) g.nums)).length c, .bool true]))
    (hp : Ps w' w'.heap.size A (placesF (dim3 g.dim) (whole (dim3 g.dim) g.nums))) : GLR g r w' := by
  unfold GLR; rw [if_pos h]; exact ⟨A, c, e, hp⟩
set_option maxHeartbeats 1000000 in
theorem gline_any (g : G) (A : Option Addr) (c : Nat) (A' : Option Addr) (c' : Nat) (w : World) (hg : GM w w.heap.size g A c A' c') :
    Calls Try.prog 13 #[GV g A c A' c'] w fun r w' => GLR g r w' ∧ Below w.heap.size w w' := by
  have hb0 := b_alloc (b_alloc (Below.refl w.heap.size w) (.cells (gCells g A c A' c') 26)) (.cells (gCells g A c A' c') 26)
  have k0 := (Blk.newAt w 26 (gCells g A c A' c') rfl).alloc (.cells (gCells g A c A' c') 26)
  have k1 := Blk.newAt (w.alloc (.cells (gCells g A c A' c') 26)) 26 (gCells g A c A' c') (n := w.heap.size + 1) (by simp)
  have s1 := small1_any g A c A' c' _ (hg.mov hb0 hb0.size) k1
  have S1 := Lib.hid s1
  cases hB : smallB g
  · have hno : ¬(smallB g = true ∧ g.kind = 2) := by simp [hB]
    clear s1
    rw [hB] at S1
    unfold GV gCells at *
    go_enter Try.func13, Try.ntmps13
    go_wp2_with fail
    refine S1.out.mono ?_
    rintro e w1 ⟨rfl, hb1⟩
    have hBB := b_trans hb0 hb1
    go_wp2_with fail
    refine bodyPost_ret (v := .tuple #[.slice none 0 0, .bool false]) (by simp [results, Try.results13, go_sem]) rfl ⟨GLR_no hno rfl, hBB⟩
  · rw [hB] at S1
    clear s1
    by_cases q1 : g.kind = 2
    · have hyes : ∀ (r : Ending) (w' : World), (∃ A c, r = .returned (.tuple #[.slice A (placesF (dim3 g.dim) (whole (dim3 g.dim) g.nums)).length c, .bool true]) ∧ Ps w' w'.heap.size A (placesF (dim3 g.dim) (whole (dim3 g.dim) g.nums))) → GLR g r w' := fun r w' ⟨A, c, h1, h2⟩ => GLR_yes ⟨hB, q1⟩ h1 h2
      have HY := Lib.hid hyes
      clear hyes
      obtain ⟨k, d, ns, kids⟩ := g
      simp only [G.kind] at q1
      subst q1
      have hsz := wtL_small (of_decide_eq_true hB)
      have hns : ns.length ≤ 2000 := by unfold sz at hsz; omega
      have s2 := fun (w' : World) (hb : Below w.heap.size w w') => newline2_any d ns kids A c A' c' (by omega) w' (hg.mov hb hb.size)
      have hwl := whole_length (dim3 d) ns
      have hwl2 := div_mul_le' ns.length (wd (dim3 d))
      have s3 := fun A c w hA => places_any (dim3 d) (dim3_lt d) (whole (dim3 d) ns) A c (by omega) w hA
      unfold newLine at s2
      clear hB hsz hwl hwl2
      simp only [G.kind, G.dim, G.nums, G.kids] at *
      generalize dim3 d = e at *
      generalize hW : whole e ns = W at *
      clear hW hg
      unfold GR PsR GV gCells at *
      simp only [G.kind, G.dim, G.nums, G.kids, List.length_nil, c0] at *
      have S2 := Lib.hid s2
      have S3 := Lib.hid s3
      clear s2 s3
      go_enter Try.func13, Try.ntmps13
      go_wp2_with fail
      refine S1.out.mono ?_
      rintro e1 w1 ⟨rfl, hb1⟩
      have hBB := b_trans hb0 hb1
      have k0 := k0.stay hb1
      have o0 := k0.cell 0
      have o1 := k0.cell 1
      have o2 := k0.cell 2
      have o3 := k0.cell 3
      simp at o0 o1 o2 o3
      go_wp2_with fail
      refine (S2.out _ hBB).mono ?_
      rintro e2 w2 ⟨⟨A2, c2, A3, c3, rfl, hgm⟩, hb2⟩
      have hBB := b_trans hBB hb2
      obtain ⟨f1, _, _, _⟩ := hgm.parts
      simp only [G.kind, G.dim, G.nums, G.kids] at f1
      clear hgm
      have hb3 := b_alloc (Below.refl w2.heap.size w2) (.cells #[.int .i64 2, .int .i64 e, .slice A2 W.length c2, .slice A3 0 c3] 26)
      have f2 := f1.below hb3 hb3.size
      go_wp2_with fail
      refine (S3.out _ _ _ f2).mono ?_
      rintro e3 w3 ⟨⟨A4, c4, rfl, hps⟩, hb4⟩
      have hBB := b_trans (b_trans hBB hb3) hb4
      go_wp2_with fail
      refine bodyPost_ret (v := .tuple #[.slice A4 (placesF e W).length c4, .bool true]) (by simp [results, Try.results13, go_sem]) rfl ⟨HY.out _ _ ⟨_, _, rfl, hps⟩, hBB⟩
    · have hno : ¬(smallB g = true ∧ g.kind = 2) := by simp [q1]
      have HN := Lib.hid (fun r w' => GLR_no (r := r) (w' := w') hno)
      clear hno
      unfold GV gCells at *
      clear hg hB
      go_enter Try.func13, Try.ntmps13
      go_wp2_with fail
      refine S1.out.mono ?_
      rintro e w1 ⟨rfl, hb1⟩
      have hBB := b_trans hb0 hb1
      have k0 := k0.stay hb1
      have o0 := k0.cell 0
      simp at o0
      go_wp2_with fail
      refine bodyPost_ret (v := .tuple #[.slice none 0 0, .bool false]) (by simp [results, Try.results13, go_sem]) rfl ⟨HN.out _ _ rfl, hBB⟩
end Geo
end Go.Proofs.Ytllomldpbkeioaa
