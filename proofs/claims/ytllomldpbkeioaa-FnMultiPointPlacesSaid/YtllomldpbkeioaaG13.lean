/- Walks: a line under another type, as the reference has it; small lines. -/
import Derived.Test.YtllomldpbkeioaaG12
import Derived.Deep.RegionHeld3
namespace Go.Proofs.Ytllomldpbkeioaa
open Go.RowKit Go.Sort
namespace Geo
set_option linter.unusedSimpArgs false
set_option maxHeartbeats 2000000 in
theorem sforceleaf_any (k : Int) (d d' : Nat) (hd : d < 4) (hd' : d' < 4) (ns : List Nat) (A : Option Addr) (c : Nat) (A' : Option Addr) (c' : Nat) (hm : ns.length ≤ 2000) (w : World) (hA : Fs w w.heap.size A ns) :
    Calls Try.prog 41 #[GV (.mk k d ns []) A c A' c', .int .i64 d'] w fun r w' => GR (.mk k d' (numsF d' (placesF d ns)) []) r w' ∧ Below w.heap.size w w' := by
  have hpl := placesF_len d ns
  have s1 := fun (w' : World) (hb : Below w.heap.size w w') => places_any d hd ns A c hm w' (hA.below hb hb.size)
  have s2 := fun A c w hA => nums_any d' hd' (placesF d ns) A c (by omega) w hA
  generalize numsF d' (placesF d ns) = R at *
  generalize placesF d ns = P at *
  unfold PsR at s1
  unfold FsR at s2
  unfold GR GV gCells
  simp only [G.kind, G.dim, G.nums, G.kids, List.length_nil, c0]
  have hb0 := b_alloc (b_alloc (b_alloc (Below.refl w.heap.size w) (.cells #[.int .i64 k, .int .i64 d, .slice A ns.length c, .slice A' 0 c'] 26)) (.cells #[.int .i64 0, .int .i64 0, .slice none 0 0, .slice none 0 0] 26)) (.cells #[.int .i64 k, .int .i64 d', .slice none 0 0, .slice none 0 0] 26)
  have k0 := ((Blk.newAt w 26 #[.int .i64 k, .int .i64 d, .slice A ns.length c, .slice A' 0 c'] rfl).alloc (.cells #[.int .i64 0, .int .i64 0, .slice none 0 0, .slice none 0 0] 26)).alloc (.cells #[.int .i64 k, .int .i64 d', .slice none 0 0, .slice none 0 0] 26)
  have k1 := (Blk.newAt (w.alloc (.cells #[.int .i64 k, .int .i64 d, .slice A ns.length c, .slice A' 0 c'] 26)) 26 #[.int .i64 0, .int .i64 0, .slice none 0 0, .slice none 0 0] (n := w.heap.size + 1) (by simp)).alloc (.cells #[.int .i64 k, .int .i64 d', .slice none 0 0, .slice none 0 0] 26)
  have k2 := Blk.newAt ((w.alloc (.cells #[.int .i64 k, .int .i64 d, .slice A ns.length c, .slice A' 0 c'] 26)).alloc (.cells #[.int .i64 0, .int .i64 0, .slice none 0 0, .slice none 0 0] 26)) 26 #[.int .i64 k, .int .i64 d', .slice none 0 0, .slice none 0 0] (n := w.heap.size + 1 + 1) (by simp)
  have S1 := Lib.hid s1
  have S2 := Lib.hid s2
  clear s1 s2
  go_enter Try.func41, Try.ntmps41
  go_wp2_with fail
  refine (S1.out _ hb0).mono ?_
  rintro e w1 ⟨⟨A1, c1, rfl, hf1⟩, hb1⟩
  have k0 := k0.stay hb1
  have k1 := k1.stay hb1
  have k2 := k2.stay hb1
  have hB := b_trans hb0 hb1
  go_wp2_with fail
  refine (S2.out _ _ _ hf1).mono ?_
  rintro e w2 ⟨⟨A2, c2, rfl, hc2, hf2⟩, hb2⟩
  have k0 := k0.stay hb2
  have k1 := k1.stay hb2
  have k2 := k2.stay hb2
  have hB := b_trans hB hb2
  have o0 := k0.cell 0
  have o1 := k0.cell 1
  have o2 := k0.cell 2
  have o3 := k0.cell 3
  have r0 := k1.cell 0
  have r1 := k1.cell 1
  have r2 := k1.cell 2
  have r3 := k1.cell 3
  have p0 := k2.cell 0
  have p1 := k2.cell 1
  have p2 := k2.cell 2
  have p3 := k2.cell 3
  have fz := k2.frozen
  have fr := k1.frozen
  have z2 := k2.lt
  simp at o0 o1 o2 o3 r0 r1 r2 r3 p0 p1 p2 p3
  have ho1 := hf2.off k1 (by simp [noF])
  have ho2 := hf2.off k2 (by simp [noF])
  clear S1 S2 hb0 hb1 hb2 hf1
  go_wp2_with fail
  go_loopw [23] (fun i wr => i = .int .i64 0 ∧ wr = (w2.setCell ⟨w.heap.size + 1 + 1, 2, none⟩ (.slice A2 R.length c2))) (fun i _ => 0)
  case atStart => exact ⟨rfl, rfl⟩
  case round =>
    obtain ⟨rfl, rfl⟩ := hrel
    go_wp2_with fail
    refine bodyPost_ret (v := .agg #[.int .i64 k, .int .i64 d', .slice A2 R.length c2, .slice none 0 0]) (by simp [results, Try.results41, go_sem, r0, r1, r2, r3, p0, p1, p2, p3]) rfl ⟨⟨A2, c2, none, 0, rfl, ?_⟩, ?_⟩
    · exact GM.of ((((((hf2.set ho2 _ _).set ho1 _ _).set ho1 _ _).set ho1 _ _).set ho1 _ _).up (by simp)) hc2 (Nat.le_refl _) (Gs.nil _ _ _)
    · repeat (first | exact hB | refine b_set ?_ _ (by first | (simp; done) | (simp; omega)) _)
theorem wtL_small {g : G} (h : 0 ≤ wtL [g] 2000) : sz g ≤ 2000 := by
  have := wtL_range [g] 2000 (by omega)
  have h2 := this.2.2 h
  have h3 := szL_mem (l := [g]) (g := g) (by simp)
  omega
end Geo
end Go.Proofs.Ytllomldpbkeioaa
