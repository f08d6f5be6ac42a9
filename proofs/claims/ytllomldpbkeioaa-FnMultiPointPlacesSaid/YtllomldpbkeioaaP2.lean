/- Walks: a point out of plain data. -/
import Derived.Test.YtllomldpbkeioaaP1
namespace Go.Proofs.Ytllomldpbkeioaa
open Go.RowKit Go.Sort
namespace Geo
set_option linter.unusedSimpArgs false
structure Pt where
  p : P4
  d : Nat
  f : Bool
def Pt.V (q : Pt) : Value := PV q.p q.d q.f
/-- the point of plain data of kind 1 -/
def ptOf (g : G) : Pt := if g.nums.length / wd (dim3 g.dim) = 0 then ⟨p40, dim3 g.dim, false⟩ else ⟨placeAt (dim3 g.dim) (whole (dim3 g.dim) g.nums) 0, dim3 g.dim, true⟩
theorem whole_div (e : Nat) (ns : List Nat) : (whole e ns).length / wd e = ns.length / wd e := by
  rw [whole_length, Nat.mul_div_cancel _ (wd_pos e)]
set_option maxHeartbeats 2000000 in
theorem point_any (d : Int) (ns : List Nat) (kids : List G) (A : Option Addr) (c : Nat) (A' : Option Addr) (c' : Nat) (hm : ns.length ≤ 10000) (w : World) (hg : GM w w.heap.size (.mk 1 d ns kids) A c A' c') :
    Calls Try.prog 62 #[GV (.mk 1 d ns kids) A c A' c'] w fun r w' => r = .returned (ptOf (.mk 1 d ns kids)).V ∧ Below w.heap.size w w' := by
  obtain ⟨hn, _, _, _⟩ := hg.parts
  simp only [G.nums] at hn
  have hpt : ptOf (.mk 1 d ns kids) = if ns.length / wd (dim3 d) = 0 then ⟨p40, dim3 d, false⟩ else ⟨placeAt (dim3 d) (whole (dim3 d) ns) 0, dim3 d, true⟩ := rfl
  have he := dim3_lt d
  have hwl := whole_length (dim3 d) ns
  have hwd := whole_div (dim3 d) ns
  have hwl2 := div_mul_le' ns.length (wd (dim3 d))
  have s1 := fun (w' : World) (hb : Below w.heap.size w w') => sequence_any d ns A c (by omega) w' (hn.below hb hb.size)
  have s2 := fun A c w => length_any (dim3 d) he A (whole (dim3 d) ns).length c (by omega) w
  rw [hwd] at s2
  have s3 := fun A c (hlt : 0 < ns.length / wd (dim3 d)) w hA => get_any (dim3 d) he (whole (dim3 d) ns) A c 0 (by omega) (by rw [hwd]; exact hlt) w hA
  have s4 := fun w => dimof_any d w
  have s5 := fun w => emptypoint_any (dim3 d) w
  have s6 := fun p w => newpoint_any p (dim3 d) w
  rw [show GV (.mk 1 d ns kids) A c A' c' = .agg #[.int .i64 1, .int .i64 d, .slice A ns.length c, .slice A' kids.length c'] from rfl]
  have hb0 := b_alloc (b_alloc (Below.refl w.heap.size w) (.cells #[.int .i64 1, .int .i64 d, .slice A ns.length c, .slice A' kids.length c'] 26)) (.cells #[.float .f64 0, .float .f64 0, .float .f64 0, .float .f64 0, .int .u8 0, .bool false] 100)
  have k0 := (Blk.newAt w 26 #[.int .i64 1, .int .i64 d, .slice A ns.length c, .slice A' kids.length c'] rfl).alloc (.cells #[.float .f64 0, .float .f64 0, .float .f64 0, .float .f64 0, .int .u8 0, .bool false] 100)
  have k1 := Blk.newAt (w.alloc (.cells #[.int .i64 1, .int .i64 d, .slice A ns.length c, .slice A' kids.length c'] 26)) 100 #[.float .f64 0, .float .f64 0, .float .f64 0, .float .f64 0, .int .u8 0, .bool false] (n := w.heap.size + 1) (by simp)
  clear hg hn hwl hwd hwl2
  generalize whole (dim3 d) ns = W at *
  generalize dim3 d = e at *
  by_cases hz : ns.length / wd e = 0
  · rw [hz, c0] at s2
    rw [hpt, if_pos hz]
    clear hpt hz s3 s6
    unfold Pt.V PV pCells p40 SR SV at *
    simp only [] at *
    have S1 := Lib.hid s1
    have S2 := Lib.hid s2
    have S4 := Lib.hid s4
    have S5 := Lib.hid s5
    clear s1 s2 s4 s5
    go_enter Try.func62, Try.ntmps62
    go_wp2_with fail
    refine (S1.out _ hb0).mono ?_
    rintro e1 w1 ⟨⟨A1, c1, rfl, hc1, hf1⟩, hb1⟩
    have k0 := k0.stay hb1
    have k1 := k1.stay hb1
    have hB := b_trans hb0 hb1
    have z0 := k0.lt
    have z1 := k1.lt
    have o0 := k0.cell 0
    have o1 := k0.cell 1
    simp at o0 o1
    have k0 := k0.alloc (.cells #[.int .u8 e, .slice A1 W.length c1] 55)
    have k1 := k1.alloc (.cells #[.int .u8 e, .slice A1 W.length c1] 55)
    have hB := b_alloc hB (.cells #[.int .u8 e, .slice A1 W.length c1] 55)
    clear hb1
    go_wp2_with fail
    refine (S2.out _ _ _).mono ?_
    rintro e2 w2 ⟨rfl, hb2⟩
    have k0 := k0.stay hb2
    have k1 := k1.stay hb2
    have hB := b_trans hB hb2
    have o1 := k0.cell 1
    simp at o1
    clear hb2
    go_wp2_with fail
    refine (S4.out _).mono ?_
    rintro e3 w3 ⟨rfl, rfl⟩
    go_wp2_with fail
    refine (S5.out _).mono ?_
    rintro e4 w4 ⟨rfl, hb4⟩
    have k1 := k1.stay hb4
    have hB := b_trans hB hb4
    have r0 := k1.cell 0
    have r1 := k1.cell 1
    have r2 := k1.cell 2
    have r3 := k1.cell 3
    have r4 := k1.cell 4
    have r5 := k1.cell 5
    have fz := k1.frozen
    simp at r0 r1 r2 r3 r4 r5
    clear S1 S2 S4 S5 hb4
    go_wp2_with fail
    refine bodyPost_ret (v := .agg #[.float .f64 0, .float .f64 0, .float .f64 0, .float .f64 0, .int .u8 e, .bool false]) (by simp [results, Try.results62, go_sem, r0, r1, r2, r3, r4, r5]) rfl ⟨rfl, ?_⟩
    repeat (first | with_reducible exact hB | with_reducible refine b_set ?_ _ (by first | (simp; done) | (simp; omega)) _)
  · have hzI : ¬ (((ns.length / wd e : Nat) : Int) = 0) := by omega
    have hzb : (((ns.length / wd e : Nat) : Int) == 0) = false := beq_eq_false_iff_ne.2 hzI
    have s3q := fun A c w hA => s3 A c (Nat.pos_of_ne_zero hz) w hA
    clear s3
    rw [c0] at s3q
    rw [hpt, if_neg hz]
    clear hpt hz s4 s5
    generalize ns.length / wd e = N at *
    generalize placeAt e W 0 = p at *
    unfold Pt.V PV pCells SR SV CV at *
    simp only [] at *
    have S1 := Lib.hid s1
    have S2 := Lib.hid s2
    have S3 := Lib.hid s3q
    have S6 := Lib.hid s6
    clear s1 s2 s3q s6
    go_enter Try.func62, Try.ntmps62
    go_wp2_with fail
    refine (S1.out _ hb0).mono ?_
    rintro e1 w1 ⟨⟨A1, c1, rfl, hc1, hf1⟩, hb1⟩
    have k0 := k0.stay hb1
    have k1 := k1.stay hb1
    have hB := b_trans hb0 hb1
    have z0 := k0.lt
    have z1 := k1.lt
    have o0 := k0.cell 0
    have o1 := k0.cell 1
    simp at o0 o1
    have ks := Blk.new w1 55 #[.int .u8 e, .slice A1 W.length c1]
    have k1 := k1.alloc (.cells #[.int .u8 e, .slice A1 W.length c1] 55)
    have hB := b_alloc hB (.cells #[.int .u8 e, .slice A1 W.length c1] 55)
    have hba1 := b_alloc (Below.refl w1.heap.size w1) (.cells #[.int .u8 e, .slice A1 W.length c1] 55)
    have hf1 := hf1.below hba1 hba1.size
    clear hba1
    clear hb1
    go_wp2_with fail
    refine (S2.out _ _ _).mono ?_
    rintro e2 w2 ⟨rfl, hb2⟩
    have ks := ks.stay hb2
    have k1 := k1.stay hb2
    have hB := b_trans hB hb2
    have hf2 := hf1.below hb2 hb2.size
    have o0 := ks.cell 0
    have o1 := ks.cell 1
    simp at o0 o1
    clear hb2 hf1
    go_wp2_with fail
    refine (S3.out _ _ _ hf2).mono ?_
    rintro e3 w3 ⟨rfl, hb3⟩
    have k1 := k1.stay hb3
    have hB := b_trans hB hb3
    go_wp2_with fail
    refine (S6.out _ _).mono ?_
    rintro e4 w4 ⟨rfl, hb4⟩
    have k1 := k1.stay hb4
    have hB := b_trans hB hb4
    have r0 := k1.cell 0
    have r1 := k1.cell 1
    have r2 := k1.cell 2
    have r3 := k1.cell 3
    have r4 := k1.cell 4
    have r5 := k1.cell 5
    have fz := k1.frozen
    simp at r0 r1 r2 r3 r4 r5
    clear S1 S2 S3 S6 hb4 hb3
    go_wp2_with fail
    refine bodyPost_ret (v := .agg #[.float .f64 p.x, .float .f64 p.y, .float .f64 p.z, .float .f64 p.m, .int .u8 e, .bool true]) (by simp [results, Try.results62, go_sem, r0, r1, r2, r3, r4, r5]) rfl ⟨rfl, ?_⟩
    repeat (first | with_reducible exact hB | with_reducible refine b_set ?_ _ (by first | (simp; done) | (simp; omega)) _)
end Geo
end Go.Proofs.Ytllomldpbkeioaa
