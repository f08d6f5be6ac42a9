/- Walks: a line as a new geometry; a leaf under another type. -/
import Derived.Test.YtllomldpbkeioaaG10
import Derived.Test.YtllomldpbkeioaaTail
namespace Go.Proofs.Ytllomldpbkeioaa
open Go.RowKit Go.Sort
namespace Geo
set_option linter.unusedSimpArgs false
theorem leaf2_any (w : World) : Calls Try.prog 30 #[.int .i64 2] w fun r w' => r = .returned (.bool true) ∧ w = w' := by
  go_enter Try.func30, Try.ntmps30
  go_wp2
  go_ret
  exact ⟨rfl, rfl⟩
def newLine (d : Int) (ns : List Nat) : G := .mk 2 (dim3 d) (whole (dim3 d) ns) []
set_option maxHeartbeats 4000000 in
theorem newline2_any (d : Int) (ns : List Nat) (kids : List G) (A : Option Addr) (c : Nat) (A' : Option Addr) (c' : Nat) (hm : ns.length ≤ 100000) (w : World) (hg : GM w w.heap.size (.mk 2 d ns kids) A c A' c') :
    Calls Try.prog 28 #[GV (.mk 2 d ns kids) A c A' c'] w fun r w' => GR (newLine d ns) r w' ∧ Below w.heap.size w w' := by
  obtain ⟨hn, hc, _, _⟩ := hg.parts
  have hd := dim3_lt d
  have ha := and3 d
  have hwd := fun w => width_any (dim3 d) hd w
  have hlf := leaf2_any
  unfold GV gCells newLine GR
  simp only [G.kind, G.dim, G.nums, G.kids] at *
  have hda : (d % 4 : Int) = (dim3 d : Int) := by unfold dim3; omega
  clear hg
  rw [hda] at ha
  clear hda
  generalize dim3 d = e at *
  have hw := wd_le e
  have hwl := whole_length e ns
  have hsrc := fun (w' : World) (hb : Below w.heap.size w w') => fs_cell1 (hn.below hb hb.size) (ns.length / wd e * wd e) (div_mul_le' _ _)
  have hle := div_mul_le' ns.length (wd e)
  have hwh : whole e ns = ns.take (ns.length / wd e * wd e) := rfl
  rw [← hwh] at hsrc
  have hq : ((ns.length : Int) / (wd e : Int)) = ((ns.length / wd e : Nat) : Int) := (Int.natCast_ediv _ _).symm
  have hN : ns.length / wd e ≤ 100000 := Nat.le_trans (Nat.div_le_self _ _) hm
  have hmm : ((ns.length / wd e : Nat) : Int) * (wd e : Int) = ((ns.length / wd e * wd e : Nat) : Int) := (Int.natCast_mul _ _).symm
  generalize ns.length / wd e * wd e = M at *
  generalize ns.length / wd e = N at *
  have HSRC := Lib.hid hsrc
  have HWL := Lib.hid hwl
  clear hsrc hwl hwh
  have hWI : (wd e : Int) ≠ 0 := by omega
  have hWI2 : (0 : Int) < (wd e : Int) := by omega
  have cw := fun (w : World) => Calls.inClassEq (w := w) hwd
  have hlf' := Lib.hid hlf
  clear hwd hlf
  have bB : Below w.heap.size w (((w.alloc (.cells #[.int .i64 2, .int .i64 d, .slice A ns.length c, .slice A' kids.length c'] 26)).alloc (.cells #[.int .i64 0, .int .i64 0, .slice none 0 0, .slice none 0 0] 26)).alloc (.cells #[.int .i64 2, .int .i64 e, .slice none 0 0, .slice none 0 0] 26)) := b_alloc (b_alloc (b_alloc (Below.refl _ _) _) _) _
  have k2 := (Blk.newAt (w.alloc (.cells #[.int .i64 2, .int .i64 d, .slice A ns.length c, .slice A' kids.length c'] 26)) 26 #[.int .i64 0, .int .i64 0, .slice none 0 0, .slice none 0 0] (n := w.heap.size + 1) (by simp)).alloc (.cells #[.int .i64 2, .int .i64 e, .slice none 0 0, .slice none 0 0] 26)
  have k3 := Blk.newAt ((w.alloc (.cells #[.int .i64 2, .int .i64 d, .slice A ns.length c, .slice A' kids.length c'] 26)).alloc (.cells #[.int .i64 0, .int .i64 0, .slice none 0 0, .slice none 0 0] 26)) 26 #[.int .i64 2, .int .i64 e, .slice none 0 0, .slice none 0 0] (n := w.heap.size + 1 + 1) (by simp)
  have K2 := Lib.hid k2
  have K3 := Lib.hid k3
  have BB := Lib.hid bB
  clear k2 k3 bB
  go_enter Try.func28, Try.ntmps28
  go_wp2_with (go_at_call 30; refine (hlf'.out _).mono ?_; rintro e w1 ⟨rfl, rfl⟩)
  refine wp_region_below (by kernel_rfl) (by kernel_rfl) ?_
  repeat (go_big_quiet_step ((with_reducible exact cw _ _)))
  refine wpQuiet_nil ?_
  intro w1 hb1
  have k2 := K2.out.stay hb1
  have k3 := K3.out.stay hb1
  have hbw := b_trans BB.out hb1
  obtain ⟨bcw1, bfw1⟩ := bcell hb1
  have zw1_0 : w.heap.size < w1.heap.size := by have := hb1.size; (try simp at this); omega
  have zw1_1 : w.heap.size + 1 < w1.heap.size := by have := hb1.size; (try simp at this); omega
  have zw1_2 : w.heap.size + 1 + 1 < w1.heap.size := by have := hb1.size; (try simp at this); omega
  go_wp2
  refine wp_tail_below 10 (by kernel_rfl) (by kernel_rfl) ?_
  simp only [List.take_succ_cons, List.take_zero, List.drop_succ_cons, List.drop_zero]
  repeat (go_big_quiet_step ((with_reducible exact cw _ _)))
  refine wpQuiet_nil ?_
  intro w2 hb2
  have k2 := k2.stay hb2
  have k3 := k3.stay hb2
  have hbw := b_trans hbw hb2
  have hfs := hn.below hbw hbw.size
  have hsr := HSRC.out w2 hbw
  have z3 := k3.lt
  clear hb1 hb2 BB K2 K3 HSRC
  refine wpList_app slF (by rfl) _ _ (by rfl) w.heap.size (A := none) (n := 0) (c := 0) (xs := []) (by rfl) (World.ownsRow_nil _ _ _ _) (X := A) (m := M) (cx := c) (fl (whole e ns)) (by rfl) (by rw [fl_length, HWL.out, Nat.mul_one]) hsr (fl_one _) (fun h => ?_) (by unfold maxLen; omega) (by omega) (by omega) ?_
  · by_cases h0 : ns = []
    · subst h0; simp at hle; exact hle
    · obtain ⟨b, off, e1, _⟩ := hn h0
      rw [h] at e1; cases e1
  intro A1 c1 w3 hown hgr
  have kr := k2.grown hgr (by simp [Value.ownBlock])
  have ko := k3.grown hgr (by simp [Value.ownBlock])
  have hb3 : Below w.heap.size w w3 := b_grown hbw hgr (by omega) (by simp [Value.ownBlock])
  obtain ⟨f1, f2, f3⟩ := fs_of_own (by simpa using hown)
  have r0 := kr.cell 0
  have r1 := kr.cell 1
  have r2 := kr.cell 2
  have r3 := kr.cell 3
  have o0 := ko.cell 0
  have o1 := ko.cell 1
  have o2 := ko.cell 2
  have o3 := ko.cell 3
  have rf := kr.frozen
  have of := ko.frozen
  have zr := kr.lt
  have zo := ko.lt
  simp at r0 r1 r2 r3 o0 o1 o2 o3
  have hor := f3.off kr (by simp [noF])
  have hoo := f3.off ko (by simp [noF])
  clear k2 k3 hown hgr hsr hfs hn cw hq hmm ha
  go_wp2
  refine bodyPost_ret (v := .agg #[.int .i64 2, .int .i64 e, .slice A1 M c1, .slice none 0 0]) (by simp [results, Try.results28, go_sem, r0, r1, r2, r3, ← f2]) rfl ⟨⟨A1, c1, none, 0, ?_, ?_⟩, ?_⟩
  · unfold GV gCells
    rw [← HWL.out]; rfl
  · refine GM.of ?_ f1 (Nat.le_refl _) (Gs.nil _ _ _)
    exact (((((f3.set hoo _ _).set hor _ _).set hor _ _).set hor _ _).set hor _ _).up (by simp)
  · repeat (first | exact hb3 | refine b_set ?_ _ (by first | (simp; done) | (simp; omega)) _)
end Geo
end Go.Proofs.Ytllomldpbkeioaa
