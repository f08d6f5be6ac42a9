/- Walks: lines under another type of coordinates. -/
import Derived.Test.YtllomldpbkeioaaG11
import Derived.Deep.RegionHeld3
namespace Go.Proofs.Ytllomldpbkeioaa
open Go.RowKit Go.Sort
namespace Geo
set_option linter.unusedSimpArgs false
def fsF (d d' : Nat) (ns : List Nat) : List Nat := if d = d' then ns else numsF d' (placesF d ns)
theorem placesF_len (d : Nat) (ns : List Nat) : (placesF d ns).length ≤ ns.length := by
  unfold placesF; rw [placesN_length]; exact Nat.div_le_self _ _
theorem placesF_len2 (d : Nat) (ns : List Nat) : (placesF d ns).length * 2 ≤ ns.length := by
  unfold placesF; rw [placesN_length]
  have := div_mul_le' ns.length (wd d)
  have h2 := (wd_le d).1
  have : ns.length / wd d * 2 ≤ ns.length / wd d * wd d := Nat.mul_le_mul_left _ h2
  omega
theorem fsF_len (d d' : Nat) (hd' : d' < 4) (ns : List Nat) : (fsF d d' ns).length ≤ ns.length * 2 := by
  unfold fsF
  split
  · omega
  · rw [numsF_length hd']
    have h1 := placesF_len2 d ns
    have h2 := (wd_le d').2
    have : (placesF d ns).length * wd d' ≤ (placesF d ns).length * 4 := Nat.mul_le_mul_left _ h2
    omega
theorem fsF_whole {d d' : Nat} (hd' : d' < 4) (ns : List Nat) : numsF d' (placesF d' (fsF d d' ns)) = numsF d' (placesF d ns) := by
  unfold fsF
  split
  · rename_i h; subst h; rfl
  · exact nums_places_nums hd' _
theorem lineF_len (g : G) : (lineF g).length ≤ g.nums.length := by
  unfold lineF
  split
  · rw [whole_length]; exact div_mul_le' _ _
  · simp
theorem linef_any (d d' : Nat) (hd : d < 4) (hd' : d' < 4) (ns : List Nat) (A : Option Addr) (c : Nat) (hc : ns.length ≤ c) (hm : ns.length ≤ 100000) (w : World) (hA : Fs w w.heap.size A ns) :
    Calls Try.prog 43 #[SV d A ns.length c, .int .u8 d'] w fun r w' => SR d' (fsF d d' ns) r w' ∧ Below w.heap.size w w' := by
  have s1 := fun (w' : World) (hb : Below w.heap.size w w') => force_any d d' hd hd' ns A c hc hm w' (hA.below hb hb.size)
  have hb0 := b_alloc (b_alloc (Below.refl w.heap.size w) (.cells #[.int .u8 d, .slice A ns.length c] 57)) (.cells #[.int .u8 0, .slice none 0 0] 57)
  have kk := Blk.newAt (w.alloc (.cells #[.int .u8 d, .slice A ns.length c] 57)) 57 #[.int .u8 0, .slice none 0 0] (n := w.heap.size + 1) (by simp)
  have hs : fsF d d' ns = if d = d' then ns else numsF d' (placesF d ns) := rfl
  unfold SRF at s1
  rw [← hs] at s1
  clear hs
  unfold SR SV at *
  have S1 := Lib.hid s1
  clear s1
  go_enter Try.func43, Try.ntmps43
  go_wp2_with fail
  refine (S1.out _ hb0).mono ?_
  rintro e w1 ⟨⟨Ar, cr, rfl, hcr, hfr⟩, hb1⟩
  have k1 := kk.stay hb1
  have hB1 := b_trans hb0 hb1
  have p0 := k1.cell 0
  have p1 := k1.cell 1
  have fz := k1.frozen
  simp at p0 p1
  have ho := hfr.off k1 (by simp [noF])
  clear S1
  go_wp2
  refine bodyPost_ret (v := .agg #[.int .u8 d', .slice Ar (fsF d d' ns).length cr]) (by simp [results, Try.results43, go_sem, p0, p1]) rfl ⟨⟨_, _, rfl, hcr, ?_⟩, ?_⟩
  · exact ((hfr.set ho _ _).set ho _ _).up (by simp)
  · exact b_set (b_set hB1 _ (Nat.le_succ _) _) _ (Nat.le_succ _) _
theorem plainline_any (d : Nat) (hd : d < 4) (ns : List Nat) (A : Option Addr) (c : Nat) (hm : ns.length ≤ 100000) (w : World) (hA : Fs w w.heap.size A ns) :
    Calls Try.prog 42 #[SV d A ns.length c] w fun r w' => GR (.mk 2 d (numsF d (placesF d ns)) []) r w' ∧ Below w.heap.size w w' := by
  have cl := fun w => coords_any d A ns.length c w
  have s1 := fun (w' : World) (hb : Below w.heap.size w w') => plainseq_any d hd ns A c hm w' (hA.below hb hb.size)
  have hb0 := b_alloc (b_alloc (Below.refl w.heap.size w) (.cells #[.int .u8 d, .slice A ns.length c] 57)) (.cells #[.int .i64 0, .int .i64 0, .slice none 0 0, .slice none 0 0] 26)
  have kk := Blk.newAt (w.alloc (.cells #[.int .u8 d, .slice A ns.length c] 57)) 26 #[.int .i64 0, .int .i64 0, .slice none 0 0, .slice none 0 0] (n := w.heap.size + 1) (by simp)
  obtain ⟨R, hR⟩ : ∃ R, R = numsF d (placesF d ns) := ⟨_, rfl⟩
  rw [← hR] at s1 ⊢
  clear hR
  unfold GR GV gCells SV at *
  have S1 := Lib.hid s1
  have CL := Lib.hid cl
  clear s1 cl
  go_enter Try.func42, Try.ntmps42
  go_wp2_with fail
  refine (CL.out _).mono ?_
  rintro e w1 ⟨rfl, hb1⟩
  have k1 := kk.stay hb1
  have hB1 := b_trans hb0 hb1
  go_wp2_with fail
  refine (S1.out _ hB1).mono ?_
  rintro e w2 ⟨⟨A1, c1, A2, c2, rfl, hg⟩, hb2⟩
  have k2 := k1.stay hb2
  have hB2 := b_trans hB1 hb2
  have p0 := k2.cell 0
  have p1 := k2.cell 1
  have p2 := k2.cell 2
  have p3 := k2.cell 3
  have fz := k2.frozen
  simp at p0 p1 p2 p3
  obtain ⟨h1, h2, h3, _⟩ := hg.parts
  have ho := h1.off k2 (by simp [noF])
  simp only [G.kind, G.dim, G.nums, G.kids] at *
  clear S1 CL hg
  go_wp2
  refine bodyPost_ret (v := .agg #[.int .i64 2, .int .i64 d, .slice A1 R.length c1, .slice A2 0 c2]) (by simp [results, Try.results42, go_sem, p0, p1, p2, p3]) rfl ⟨⟨_, _, _, _, rfl, ?_⟩, ?_⟩
  · exact GM.of (((((h1.set ho _ _).set ho _ _).set ho _ _).set ho _ _).up (by simp)) h2 h3 (Gs.nil _ _ _)
  · exact b_set (b_set (b_set (b_set hB2 _ (Nat.le_succ _) _) _ (Nat.le_succ _) _) _ (Nat.le_succ _) _) _ (Nat.le_succ _) _
/-- the numbers of a line under another type -/
def forceL (g : G) (dim : Int) : List Nat := numsF (dim3 dim) (placesF (dim3 g.dim) (lineF g))
set_option maxHeartbeats 1000000 in
theorem seqforce_any (g : G) (A : Option Addr) (c : Nat) (A' : Option Addr) (c' : Nat) (dim : Int) (hm : g.nums.length ≤ 10000) (w : World) (hg : GM w w.heap.size g A c A' c') :
    Calls Try.prog 15 #[GV g A c A' c', .int .i64 dim] w fun r w' => GR (.mk 2 (dim3 dim) (forceL g dim) []) r w' ∧ Below w.heap.size w w' := by
  have hl := lineF_len g
  have hd := dim3_lt g.dim
  have hd' := dim3_lt dim
  have hfl := fsF_len (dim3 g.dim) (dim3 dim) hd' (lineF g)
  have s1 := fun (w' : World) (hb : Below w.heap.size w w') => line_any g A c A' c' (by omega) w' (hg.mov hb hb.size)
  have s3 := fun w => dimof_any dim w
  have hfw : numsF (dim3 dim) (placesF (dim3 dim) (fsF (dim3 g.dim) (dim3 dim) (lineF g))) = forceL g dim := fsF_whole hd' _
  generalize dim3 dim = d' at *
  generalize dim3 g.dim = d at *
  generalize lineF g = L at *
  generalize forceL g dim = R at *
  have s2 := fun A c w => coords_any d A L.length c w
  have s4 := fun A c (hc : L.length ≤ c) w hA => force_any d d' hd hd' L A c hc (by omega) w hA
  have s5 := fun A c w hA => plainseq_any d' hd' (fsF d d' L) A c (by omega) w hA
  rw [hfw] at s5
  unfold SRF at s4
  rw [show (if d = d' then L else numsF d' (placesF d L)) = fsF d d' L from rfl] at s4
  generalize fsF d d' L = F at *
  have hb0 := b_alloc (b_alloc (Below.refl w.heap.size w) (.cells (gCells g A c A' c') 26)) (.cells #[.int .i64 0, .int .i64 0, .slice none 0 0, .slice none 0 0] 26)
  have kk := Blk.newAt (w.alloc (.cells (gCells g A c A' c') 26)) 26 #[.int .i64 0, .int .i64 0, .slice none 0 0, .slice none 0 0] (n := w.heap.size + 1) (by simp)
  unfold SR GR GV gCells SV at *
  have S1 := Lib.hid s1
  have S2 := Lib.hid s2
  have S3 := Lib.hid s3
  have S4 := Lib.hid s4
  have S5 := Lib.hid s5
  clear s1 s2 s3 s4 s5 hg hfw
  go_enter Try.func15, Try.ntmps15
  go_wp2_with fail
  refine (S1.out _ hb0).mono ?_
  rintro e w1 ⟨⟨A1, c1, rfl, hc1, hf1⟩, hb1⟩
  have kk := kk.stay hb1
  have hB := b_trans hb0 hb1
  go_wp2_with fail
  refine (S2.out _ _ _).mono ?_
  rintro e w2 ⟨rfl, hb2⟩
  have hf1 := hf1.below hb2 hb2.size
  have kk := kk.stay hb2
  have hB := b_trans hB hb2
  go_wp2_with fail
  refine (S3.out _).mono ?_
  rintro e w3 ⟨rfl, rfl⟩
  go_wp2_with fail
  refine (S4.out _ _ hc1 _ hf1).mono ?_
  rintro e w4 ⟨⟨A4, c4, rfl, hc4, hf4⟩, hb4⟩
  have kk := kk.stay hb4
  have hB := b_trans hB hb4
  go_wp2_with fail
  refine (S5.out _ _ _ hf4).mono ?_
  rintro e w5 ⟨⟨A5, c5, A6, c6, rfl, hg⟩, hb5⟩
  have k2 := kk.stay hb5
  have hB2 := b_trans hB hb5
  have p0 := k2.cell 0
  have p1 := k2.cell 1
  have p2 := k2.cell 2
  have p3 := k2.cell 3
  have fz := k2.frozen
  simp at p0 p1 p2 p3
  obtain ⟨h1, h2, h3, _⟩ := hg.parts
  have ho := h1.off k2 (by simp [noF])
  simp only [G.kind, G.dim, G.nums, G.kids] at *
  clear S1 S2 S3 S4 S5 hg
  go_wp2
  refine bodyPost_ret (v := .agg #[.int .i64 2, .int .i64 d', .slice A5 R.length c5, .slice A6 0 c6]) (by simp [results, Try.results15, go_sem, p0, p1, p2, p3]) rfl ⟨⟨_, _, _, _, rfl, ?_⟩, ?_⟩
  · exact GM.of (((((h1.set ho _ _).set ho _ _).set ho _ _).set ho _ _).up (by simp)) h2 h3 (Gs.nil _ _ _)
  · exact b_set (b_set (b_set (b_set hB2 _ (Nat.le_succ _) _) _ (Nat.le_succ _) _) _ (Nat.le_succ _) _) _ (Nat.le_succ _) _
set_option maxHeartbeats 1000000 in
theorem lineforce_any (g : G) (A : Option Addr) (c : Nat) (A' : Option Addr) (c' : Nat) (dim : Int) (hm : g.nums.length ≤ 10000) (w : World) (hg : GM w w.heap.size g A c A' c') :
    Calls Try.prog 19 #[GV g A c A' c', .int .i64 dim] w fun r w' => GR (.mk 2 (dim3 dim) (forceL g dim) []) r w' ∧ Below w.heap.size w w' := by
  have hl := lineF_len g
  have hd := dim3_lt g.dim
  have hd' := dim3_lt dim
  have hfl := fsF_len (dim3 g.dim) (dim3 dim) hd' (lineF g)
  have s1 := fun (w' : World) (hb : Below w.heap.size w w') => line_any g A c A' c' (by omega) w' (hg.mov hb hb.size)
  have s3 := fun w => dimof_any dim w
  have hfw : numsF (dim3 dim) (placesF (dim3 dim) (fsF (dim3 g.dim) (dim3 dim) (lineF g))) = forceL g dim := fsF_whole hd' _
  generalize dim3 dim = d' at *
  generalize dim3 g.dim = d at *
  generalize lineF g = L at *
  generalize forceL g dim = R at *
  have s2 := fun A c w => coords_any d A L.length c w
  have s4 := fun A c (hc : L.length ≤ c) w hA => linef_any d d' hd hd' L A c hc (by omega) w hA
  have s5 := fun A c w hA => plainline_any d' hd' (fsF d d' L) A c (by omega) w hA
  rw [hfw] at s5
  generalize fsF d d' L = F at *
  have hb0 := b_alloc (b_alloc (Below.refl w.heap.size w) (.cells (gCells g A c A' c') 26)) (.cells #[.int .i64 0, .int .i64 0, .slice none 0 0, .slice none 0 0] 26)
  have kk := Blk.newAt (w.alloc (.cells (gCells g A c A' c') 26)) 26 #[.int .i64 0, .int .i64 0, .slice none 0 0, .slice none 0 0] (n := w.heap.size + 1) (by simp)
  unfold SR GR GV gCells SV at *
  have S1 := Lib.hid s1
  have S2 := Lib.hid s2
  have S3 := Lib.hid s3
  have S4 := Lib.hid s4
  have S5 := Lib.hid s5
  clear s1 s2 s3 s4 s5 hg hfw
  go_enter Try.func19, Try.ntmps19
  go_wp2_with fail
  refine (S1.out _ hb0).mono ?_
  rintro e w1 ⟨⟨A1, c1, rfl, hc1, hf1⟩, hb1⟩
  have kk := kk.stay hb1
  have hB := b_trans hb0 hb1
  go_wp2_with fail
  refine (S3.out _).mono ?_
  rintro e w3 ⟨rfl, rfl⟩
  go_wp2_with fail
  refine (S4.out _ _ hc1 _ hf1).mono ?_
  rintro e w4 ⟨⟨A4, c4, rfl, hc4, hf4⟩, hb4⟩
  have kk := kk.stay hb4
  have hB := b_trans hB hb4
  go_wp2_with fail
  refine (S5.out _ _ _ hf4).mono ?_
  rintro e w5 ⟨⟨A5, c5, A6, c6, rfl, hg⟩, hb5⟩
  have k2 := kk.stay hb5
  have hB2 := b_trans hB hb5
  have p0 := k2.cell 0
  have p1 := k2.cell 1
  have p2 := k2.cell 2
  have p3 := k2.cell 3
  have fz := k2.frozen
  simp at p0 p1 p2 p3
  obtain ⟨h1, h2, h3, _⟩ := hg.parts
  have ho := h1.off k2 (by simp [noF])
  simp only [G.kind, G.dim, G.nums, G.kids] at *
  clear S1 S2 S3 S4 S5 hg
  go_wp2
  refine bodyPost_ret (v := .agg #[.int .i64 2, .int .i64 d', .slice A5 R.length c5, .slice A6 0 c6]) (by simp [results, Try.results19, go_sem, p0, p1, p2, p3]) rfl ⟨⟨_, _, _, _, rfl, ?_⟩, ?_⟩
  · exact GM.of (((((h1.set ho _ _).set ho _ _).set ho _ _).set ho _ _).up (by simp)) h2 h3 (Gs.nil _ _ _)
  · exact b_set (b_set (b_set (b_set hB2 _ (Nat.le_succ _) _) _ (Nat.le_succ _) _) _ (Nat.le_succ _) _) _ (Nat.le_succ _) _
end Geo
end Go.Proofs.Ytllomldpbkeioaa
