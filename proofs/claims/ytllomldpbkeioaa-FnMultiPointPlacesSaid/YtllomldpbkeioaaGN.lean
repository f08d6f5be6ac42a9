/- Walks: new geometries, as the reference has them. -/
import Derived.Test.YtllomldpbkeioaaGF
import Derived.Test.YtllomldpbkeioaaG11
namespace Go.Proofs.Ytllomldpbkeioaa
open Go.RowKit Go.Sort
namespace Geo
set_option linter.unusedSimpArgs false
def kindN (k : Int) : Int := if k < 0 ∨ 6 < k then 0 else k
def kidOf (k : Int) : Int := if k = 4 then 1 else if k = 3 then 2 else if k = 5 then 2 else if k = 6 then 3 else -1
def dimsAnd (L : List G) : Nat := L.foldl (fun a m => a &&& m.dim.toNat) 3
def keeps (kk : Int) (m : G) : Bool := decide (kidOf kk < 0) || decide (kidOf kk = m.kind)
def newTop (k d : Int) (ns : List Nat) (ks : List G) : G :=
  if kindN k = 1 then .mk 1 (dim3 d) (ns.take (min (ns.length / wd (dim3 d)) 1 * wd (dim3 d))) []
  else if kindN k = 2 then .mk 2 (dim3 d) (whole (dim3 d) ns) []
  else if ks.filter (keeps (kindN k)) = [] then .mk (kindN k) (dim3 d) [] []
  else forceG (dimsAnd (ks.filter (keeps (kindN k)))) (.mk (kindN k) (dim3 d) [] (ks.filter (keeps (kindN k))))
mutual
def newG : G → G
  | .mk k d ns kids => newTop k d ns (newL kids)
def newL : List G → List G
  | [] => []
  | g :: l => newG g :: newL l
end
theorem newL_eq : ∀ l, newL l = l.map newG
  | [] => by unfold newL; rfl
  | g :: l => by unfold newL; rw [newL_eq l]; rfl
theorem newG_eq (k d : Int) (ns : List Nat) (kids : List G) : newG (.mk k d ns kids) = newTop k d ns (kids.map newG) := by
  unfold newG; rw [newL_eq]
/-! ### one type throughout -/
def oneD (e : Nat) (_ d : Int) (ns : List Nat) (kids : List G) : Prop := d = e ∧ ns.length ≤ 2000 ∧ kids.length ≤ 2000
def smallN (_ _ : Int) (ns : List Nat) (kids : List G) : Prop := ns.length ≤ 2000 ∧ kids.length ≤ 2000
theorem and_lt {a b : Nat} (ha : a < 4) : a &&& b < 4 := Nat.lt_of_le_of_lt Nat.and_le_left ha
theorem wd_and {d e : Nat} (hd : d < 4) (he : e < 4) (h : d &&& e = d) : wd d ≤ wd e := by
  rcases four hd with rfl | rfl | rfl | rfl <;> rcases four he with rfl | rfl | rfl | rfl <;> revert h <;> decide
theorem force_len {d e : Nat} (hd : d < 4) (he : e < 4) (h : d &&& e = d) (ns : List Nat) : (numsF d (placesF e ns)).length ≤ ns.length := by
  rw [numsF_length hd]
  unfold placesF
  rw [placesN_length]
  exact Nat.le_trans (Nat.mul_le_mul_left _ (wd_and hd he h)) (div_mul_le' _ _)
theorem force_oneD {d e : Nat} (hd : d < 4) (he : e < 4) (h : d &&& e = d) (g : G) : allG (oneD e) g → allG (oneD d) (forceG d g) := by
  induction g using G.ind with
  | _ k f ns kids ih =>
    rw [allG_iff, forceG_eq, allG_iff]
    rintro ⟨⟨rfl, h1, h2⟩, h3⟩
    refine ⟨⟨rfl, ?_, by rw [List.length_map]; exact h2⟩, fun x hx => ?_⟩
    · rw [Int.toNat_natCast]; exact Nat.le_trans (force_len hd he h ns) h1
    · obtain ⟨y, hy, rfl⟩ := List.mem_map.1 hx
      exact ih y hy (h3 y hy)
theorem dims_le (L : List G) : ∀ a : Nat, (L.foldl (fun a m => a &&& m.dim.toNat) a) &&& a = L.foldl (fun a m => a &&& m.dim.toNat) a ∧ ∀ m ∈ L, (L.foldl (fun a m => a &&& m.dim.toNat) a) &&& m.dim.toNat = L.foldl (fun a m => a &&& m.dim.toNat) a := by
  induction L with
  | nil => intro a; exact ⟨Nat.and_self a, fun m hm => by cases hm⟩
  | cons x L ih =>
    intro a
    obtain ⟨h1, h2⟩ := ih (a &&& x.dim.toNat)
    rw [List.foldl_cons]
    generalize L.foldl (fun a m => a &&& m.dim.toNat) (a &&& x.dim.toNat) = r at *
    refine ⟨?_, fun m hm => ?_⟩
    · have e1 : (a &&& x.dim.toNat) &&& a = a &&& x.dim.toNat := by rw [Nat.and_comm a, Nat.and_assoc, Nat.and_self]
      rw [← h1, Nat.and_assoc, e1]
    · rcases List.mem_cons.1 hm with rfl | hm
      · rw [← h1, Nat.and_assoc, Nat.and_assoc, Nat.and_self]
      · exact h2 m hm
theorem dims_lt (L : List G) : ∀ a : Nat, a < 4 → L.foldl (fun a m => a &&& m.dim.toNat) a < 4 := by
  induction L with
  | nil => intro a h; exact h
  | cons x L ih => intro a h; rw [List.foldl_cons]; exact ih _ (and_lt h)
theorem dimsAnd_lt (L : List G) : dimsAnd L < 4 := dims_lt L 3 (by omega)
theorem dimsAnd_mem {L : List G} {m : G} (hm : m ∈ L) : dimsAnd L &&& m.dim.toNat = dimsAnd L := (dims_le L 3).2 m hm
theorem filter_len {L : List G} (p : G → Bool) : (L.filter p).length ≤ L.length := List.length_filter_le _ _
/-- what is made anew has one type of coordinates throughout -/
theorem new_oneD (g : G) : allG smallN g → ∃ e : Nat, e < 4 ∧ (newG g).dim = e ∧ allG (oneD e) (newG g) := by
  induction g using G.ind with
  | _ k d ns kids ih =>
    rw [allG_iff, newG_eq]
    rintro ⟨⟨h1, h2⟩, h3⟩
    have he := dim3_lt d
    unfold newTop
    split
    · exact ⟨_, he, rfl, by rw [allG_iff]; exact ⟨⟨rfl, by rw [List.length_take]; omega, Nat.zero_le _⟩, fun x hx => by cases hx⟩⟩
    · split
      · exact ⟨_, he, rfl, by rw [allG_iff]; exact ⟨⟨rfl, by rw [whole_length]; exact Nat.le_trans (div_mul_le' _ _) h1, Nat.zero_le _⟩, fun x hx => by cases hx⟩⟩
      · split
        · exact ⟨_, he, rfl, by rw [allG_iff]; exact ⟨⟨rfl, Nat.zero_le _, Nat.zero_le _⟩, fun x hx => by cases hx⟩⟩
        · refine ⟨_, dimsAnd_lt _, by rw [forceG_eq]; rfl, ?_⟩
          rw [forceG_eq, allG_iff]
          refine ⟨⟨rfl, by simp [placesF, placesN, numsF], ?_⟩, fun x hx => ?_⟩
          · rw [List.length_map]; exact Nat.le_trans (filter_len _) (by rw [List.length_map]; exact h2)
          · obtain ⟨y, hy, rfl⟩ := List.mem_map.1 hx
            obtain ⟨z, hz, rfl⟩ := List.mem_map.1 (List.mem_filter.1 hy).1
            obtain ⟨e, he, hde, hall⟩ := ih z hz (h3 z hz)
            have hm := dimsAnd_mem hy
            rw [hde, Int.toNat_natCast] at hm
            exact force_oneD (dimsAnd_lt _) he hm _ hall
theorem oneD_okF {e : Nat} (he : e < 4) (g : G) : allG (oneD e) g → allG okF g := by
  induction g using G.ind with
  | _ k d ns kids ih =>
    rw [allG_iff, allG_iff]
    rintro ⟨⟨rfl, h1, h2⟩, h3⟩
    exact ⟨⟨by omega, by omega, h1, h2⟩, fun x hx => ih x hx (h3 x hx)⟩
/-! ### small walks -/
theorem leaf_any (k : Int) (w : World) : Calls Try.prog 30 #[.int .i64 k] w fun r w' => r = .returned (.bool (decide (k = 1) || decide (k = 2))) ∧ w = w' := by
  by_cases q1 : k = 1
  · subst q1
    go_enter Try.func30, Try.ntmps30
    go_wp2
    go_ret
    exact ⟨rfl, rfl⟩
  · by_cases q2 : k = 2
    · subst q2
      go_enter Try.func30, Try.ntmps30
      go_wp2
      go_ret
      exact ⟨rfl, rfl⟩
    · have b1 : (k == 1) = false := beq_eq_false_iff_ne.2 q1
      have b2 : (k == 2) = false := beq_eq_false_iff_ne.2 q2
      rw [decide_eq_false q1, decide_eq_false q2]
      go_enter Try.func30, Try.ntmps30
      go_wp2
      go_ret
      exact ⟨by simp [b1, b2], rfl⟩
theorem kidof_any (k : Int) (w : World) : Calls Try.prog 32 #[.int .i64 k] w fun r w' => r = .returned (.int .i64 (kidOf k)) ∧ w = w' := by
  unfold kidOf
  by_cases q4 : k = 4
  · subst q4
    go_enter Try.func32, Try.ntmps32
    go_wp2
    go_ret
    exact ⟨rfl, rfl⟩
  rw [if_neg q4]
  by_cases q3 : k = 3
  · subst q3
    go_enter Try.func32, Try.ntmps32
    go_wp2
    go_ret
    exact ⟨rfl, rfl⟩
  rw [if_neg q3]
  by_cases q5 : k = 5
  · subst q5
    go_enter Try.func32, Try.ntmps32
    go_wp2
    go_ret
    exact ⟨rfl, rfl⟩
  rw [if_neg q5]
  by_cases q6 : k = 6
  · subst q6
    go_enter Try.func32, Try.ntmps32
    go_wp2
    go_ret
    exact ⟨rfl, rfl⟩
  rw [if_neg q6]
  have b4 : (k == 4) = false := beq_eq_false_iff_ne.2 q4
  have b3 : (k == 3) = false := beq_eq_false_iff_ne.2 q3
  have b5 : (k == 5) = false := beq_eq_false_iff_ne.2 q5
  have b6 : (k == 6) = false := beq_eq_false_iff_ne.2 q6
  go_enter Try.func32, Try.ntmps32
  go_wp2
  go_ret
  exact ⟨rfl, rfl⟩

/-- the numbers of a new leaf -/
def leafN1 (e : Nat) (ns : List Nat) : List Nat := ns.take ((min (ns.length / wd e) 1) * wd e)
set_option maxHeartbeats 4000000 in
theorem newleaf1_any (d : Int) (ns : List Nat) (kids : List G) (A : Option Addr) (c : Nat) (A' : Option Addr) (c' : Nat) (hm : ns.length ≤ 100000) (w : World) (hg : GM w w.heap.size (.mk 1 d ns kids) A c A' c') :
    Calls Try.prog 28 #[GV (.mk 1 d ns kids) A c A' c'] w fun r w' => GRz w.heap.size (.mk 1 (dim3 d) (leafN1 (dim3 d) ns) []) r w' ∧ Below w.heap.size w w' := by
  obtain ⟨hn, hc, _, _⟩ := hg.parts
  have hd := dim3_lt d
  have ha := and3 d
  have hwd := fun w => width_any (dim3 d) hd w
  have hlf := fun w => leaf_any 1 w
  simp only [decide_true, Bool.true_or, Bool.or_true] at hlf
  unfold GV gCells GRz
  simp only [G.kind, G.dim, G.nums, G.kids] at *
  have hda : (d % 4 : Int) = (dim3 d : Int) := by unfold dim3; omega
  clear hg
  rw [hda] at ha
  clear hda
  generalize dim3 d = e at *
  have hw := wd_le e
  have hle0 := div_mul_le' ns.length (wd e)
  have hle : (min (ns.length / wd e) 1) * wd e ≤ ns.length := Nat.le_trans (Nat.mul_le_mul_right _ (by omega)) hle0
  have hsrc := fun (w' : World) (hb : Below w.heap.size w w') => fs_cell1 (hn.below hb hb.size) ((min (ns.length / wd e) 1) * wd e) hle
  have hwh : leafN1 e ns = ns.take ((min (ns.length / wd e) 1) * wd e) := rfl
  have hwl : (leafN1 e ns).length = (min (ns.length / wd e) 1) * wd e := by rw [hwh, List.length_take]; omega
  rw [← hwh] at hsrc
  have hq : ((ns.length : Int) / (wd e : Int)) = ((ns.length / wd e : Nat) : Int) := (Int.natCast_ediv _ _).symm
  have hN : ns.length / wd e ≤ 100000 := Nat.le_trans (Nat.div_le_self _ _) hm
  have hmm : (((min (ns.length / wd e) 1) : Nat) : Int) * (wd e : Int) = (((min (ns.length / wd e) 1) * wd e : Nat) : Int) := (Int.natCast_mul _ _).symm
  generalize ns.length / wd e = N at *
  by_cases hN0 : N = 0
  · subst hN0
    rw [show min 0 1 = 0 from rfl, Nat.zero_mul] at hsrc hle hwl
    rw [c0] at hq
    clear hmm hN hwh
    have HSRC := Lib.hid hsrc
    have HWL := Lib.hid hwl
    clear hsrc hwl hle0
    have hWI : (wd e : Int) ≠ 0 := by omega
    have hWI2 : (0 : Int) < (wd e : Int) := by omega
    have cw := fun (w : World) => Calls.inClassEq (w := w) hwd
    have hlf' := Lib.hid hlf
    clear hwd hlf
    have bB : Below w.heap.size w (((w.alloc (.cells #[.int .i64 1, .int .i64 d, .slice A ns.length c, .slice A' kids.length c'] 26)).alloc (.cells #[.int .i64 0, .int .i64 0, .slice none 0 0, .slice none 0 0] 26)).alloc (.cells #[.int .i64 1, .int .i64 e, .slice none 0 0, .slice none 0 0] 26)) := b_alloc (b_alloc (b_alloc (Below.refl _ _) _) _) _
    have k2 := (Blk.newAt (w.alloc (.cells #[.int .i64 1, .int .i64 d, .slice A ns.length c, .slice A' kids.length c'] 26)) 26 #[.int .i64 0, .int .i64 0, .slice none 0 0, .slice none 0 0] (n := w.heap.size + 1) (by simp)).alloc (.cells #[.int .i64 1, .int .i64 e, .slice none 0 0, .slice none 0 0] 26)
    have k3 := Blk.newAt ((w.alloc (.cells #[.int .i64 1, .int .i64 d, .slice A ns.length c, .slice A' kids.length c'] 26)).alloc (.cells #[.int .i64 0, .int .i64 0, .slice none 0 0, .slice none 0 0] 26)) 26 #[.int .i64 1, .int .i64 e, .slice none 0 0, .slice none 0 0] (n := w.heap.size + 1 + 1) (by simp)
    have K2 := Lib.hid k2
    have K3 := Lib.hid k3
    have BB := Lib.hid bB
    clear k2 k3 bB
    go_enter Try.func28, Try.ntmps28
    go_wp2_with (go_at_call 30; refine (hlf'.out _).mono ?_; rintro e w1 ⟨rfl, rfl⟩)
    refine wp_region_below (by kernel_rfl) (by kernel_rfl) ?_
    repeat (go_big_quiet_step ((with_reducible exact cw _ _)))
    refine wpQuiet_nil ?_
    intro w1 hb1
    have k2 := K2.out.stay hb1
    have k3 := K3.out.stay hb1
    have hbw := b_trans BB.out hb1
    obtain ⟨bcw1, bfw1⟩ := bcell hb1
    have zw1_0 : w.heap.size < w1.heap.size := by have := hb1.size; (try simp at this); omega
    have zw1_1 : w.heap.size + 1 < w1.heap.size := by have := hb1.size; (try simp at this); omega
    have zw1_2 : w.heap.size + 1 + 1 < w1.heap.size := by have := hb1.size; (try simp at this); omega
    go_wp2
    refine wp_tail_below 10 (by kernel_rfl) (by kernel_rfl) ?_
    simp only [List.take_succ_cons, List.take_zero, List.drop_succ_cons, List.drop_zero]
    repeat (go_big_quiet_step ((with_reducible exact cw _ _)))
    refine wpQuiet_nil ?_
    intro w2 hb2
    have k2 := k2.stay hb2
    have k3 := k3.stay hb2
    have hbw := b_trans hbw hb2
    have hfs := hn.below hbw hbw.size
    have hsr := HSRC.out w2 hbw
    have z3 := k3.lt
    clear hb1 hb2 BB K2 K3 HSRC
    refine wpList_app slF (by rfl) _ _ (by rfl) (w.heap.size + 3) (A := none) (n := 0) (c := 0) (xs := []) (by rfl) (World.ownsRow_nil _ _ _ _) (X := A) (m := 0) (cx := c) (fl (leafN1 e ns)) (by rfl) (by rw [fl_length, HWL.out, Nat.mul_one]) hsr (fl_one _) (fun h => ?_) (by unfold maxLen; omega) (by omega) (by omega) ?_
    · first
      | rfl
      | (by_cases h0 : ns = []
         · subst h0; simp at hle; exact hle
         · obtain ⟨b, off, e1, _⟩ := hn h0
           rw [h] at e1; cases e1)
    intro A1 c1 w3 hown hgr
    have kr := k2.grown hgr (by simp [Value.ownBlock])
    have ko := k3.grown hgr (by simp [Value.ownBlock])
    have hb3 : Below w.heap.size w w3 := b_grown hbw hgr (by omega) (by simp [Value.ownBlock])
    have hown' : w3.ownsRow (w.heap.size + 3) 66 1 (.slice A1 (0 + 0) c1) (0 + 0) (fl (leafN1 e ns)) := by simpa using hown
    obtain ⟨f1, f2, _⟩ := fs_of_own hown'
    have f3 := fx_of_own hown'
    rw [Nat.zero_add] at f2
    have r0 := kr.cell 0
    have r1 := kr.cell 1
    have r2 := kr.cell 2
    have r3 := kr.cell 3
    have o0 := ko.cell 0
    have o1 := ko.cell 1
    have o2 := ko.cell 2
    have o3 := ko.cell 3
    have rf := kr.frozen
    have of := ko.frozen
    have zr := kr.lt
    have zo := ko.lt
    simp at r0 r1 r2 r3 o0 o1 o2 o3
    have F2 := Lib.hid f2
    clear k2 k3 hown hgr hsr hfs hn cw hq ha hown' f2
    go_wp2
    refine bodyPost_ret (v := .agg #[.int .i64 1, .int .i64 e, .slice A1 0 c1, .slice none 0 0]) (by simp [results, Try.results28, go_sem, r0, r1, r2, r3]) rfl ⟨⟨A1, c1, none, 0, ?_, ?_⟩, ?_⟩
    · unfold GV gCells
      simp only [G.kind, G.dim, G.nums, G.kids]
      rw [← F2.out]; rfl
    · refine GX.of (?_ : FX _ _ _ _) f1 (Nat.le_refl _) (GsX.nil _ _ _)
      exact (((((f3.setBelow (by dsimp only; omega) _).setBelow (by dsimp only; omega) _).setBelow (by dsimp only; omega) _).setBelow (by dsimp only; omega) _).setBelow (by dsimp only; omega) _).up (by omega)
    · repeat (first | exact hb3 | refine b_set ?_ _ (by first | (simp; done) | (simp; omega)) _)
  by_cases hN1 : N = 1
  · subst hN1
    rw [show min 1 1 = 1 from rfl, Nat.one_mul] at hsrc hle hwl
    rw [c1] at hq
    clear hmm hN0 hwh
    have HSRC := Lib.hid hsrc
    have HWL := Lib.hid hwl
    clear hsrc hwl hle0
    have hWI : (wd e : Int) ≠ 0 := by omega
    have hWI2 : (0 : Int) < (wd e : Int) := by omega
    have cw := fun (w : World) => Calls.inClassEq (w := w) hwd
    have hlf' := Lib.hid hlf
    clear hwd hlf
    have bB : Below w.heap.size w (((w.alloc (.cells #[.int .i64 1, .int .i64 d, .slice A ns.length c, .slice A' kids.length c'] 26)).alloc (.cells #[.int .i64 0, .int .i64 0, .slice none 0 0, .slice none 0 0] 26)).alloc (.cells #[.int .i64 1, .int .i64 e, .slice none 0 0, .slice none 0 0] 26)) := b_alloc (b_alloc (b_alloc (Below.refl _ _) _) _) _
    have k2 := (Blk.newAt (w.alloc (.cells #[.int .i64 1, .int .i64 d, .slice A ns.length c, .slice A' kids.length c'] 26)) 26 #[.int .i64 0, .int .i64 0, .slice none 0 0, .slice none 0 0] (n := w.heap.size + 1) (by simp)).alloc (.cells #[.int .i64 1, .int .i64 e, .slice none 0 0, .slice none 0 0] 26)
    have k3 := Blk.newAt ((w.alloc (.cells #[.int .i64 1, .int .i64 d, .slice A ns.length c, .slice A' kids.length c'] 26)).alloc (.cells #[.int .i64 0, .int .i64 0, .slice none 0 0, .slice none 0 0] 26)) 26 #[.int .i64 1, .int .i64 e, .slice none 0 0, .slice none 0 0] (n := w.heap.size + 1 + 1) (by simp)
    have K2 := Lib.hid k2
    have K3 := Lib.hid k3
    have BB := Lib.hid bB
    clear k2 k3 bB
    go_enter Try.func28, Try.ntmps28
    go_wp2_with (go_at_call 30; refine (hlf'.out _).mono ?_; rintro e w1 ⟨rfl, rfl⟩)
    refine wp_region_below (by kernel_rfl) (by kernel_rfl) ?_
    repeat (go_big_quiet_step ((with_reducible exact cw _ _)))
    refine wpQuiet_nil ?_
    intro w1 hb1
    have k2 := K2.out.stay hb1
    have k3 := K3.out.stay hb1
    have hbw := b_trans BB.out hb1
    obtain ⟨bcw1, bfw1⟩ := bcell hb1
    have zw1_0 : w.heap.size < w1.heap.size := by have := hb1.size; (try simp at this); omega
    have zw1_1 : w.heap.size + 1 < w1.heap.size := by have := hb1.size; (try simp at this); omega
    have zw1_2 : w.heap.size + 1 + 1 < w1.heap.size := by have := hb1.size; (try simp at this); omega
    go_wp2
    refine wp_tail_below 10 (by kernel_rfl) (by kernel_rfl) ?_
    simp only [List.take_succ_cons, List.take_zero, List.drop_succ_cons, List.drop_zero]
    repeat (go_big_quiet_step ((with_reducible exact cw _ _)))
    refine wpQuiet_nil ?_
    intro w2 hb2
    have k2 := k2.stay hb2
    have k3 := k3.stay hb2
    have hbw := b_trans hbw hb2
    have hfs := hn.below hbw hbw.size
    have hsr := HSRC.out w2 hbw
    have z3 := k3.lt
    clear hb1 hb2 BB K2 K3 HSRC
    refine wpList_app slF (by rfl) _ _ (by rfl) (w.heap.size + 3) (A := none) (n := 0) (c := 0) (xs := []) (by rfl) (World.ownsRow_nil _ _ _ _) (X := A) (m := (wd e)) (cx := c) (fl (leafN1 e ns)) (by rfl) (by rw [fl_length, HWL.out, Nat.mul_one]) hsr (fl_one _) (fun h => ?_) (by unfold maxLen; omega) (by omega) (by omega) ?_
    · first
      | rfl
      | (by_cases h0 : ns = []
         · subst h0; simp at hle; exact hle
         · obtain ⟨b, off, e1, _⟩ := hn h0
           rw [h] at e1; cases e1)
    intro A1 c1 w3 hown hgr
    have kr := k2.grown hgr (by simp [Value.ownBlock])
    have ko := k3.grown hgr (by simp [Value.ownBlock])
    have hb3 : Below w.heap.size w w3 := b_grown hbw hgr (by omega) (by simp [Value.ownBlock])
    have hown' : w3.ownsRow (w.heap.size + 3) 66 1 (.slice A1 (0 + (wd e)) c1) (0 + (wd e)) (fl (leafN1 e ns)) := by simpa using hown
    obtain ⟨f1, f2, _⟩ := fs_of_own hown'
    have f3 := fx_of_own hown'
    rw [Nat.zero_add] at f2
    have r0 := kr.cell 0
    have r1 := kr.cell 1
    have r2 := kr.cell 2
    have r3 := kr.cell 3
    have o0 := ko.cell 0
    have o1 := ko.cell 1
    have o2 := ko.cell 2
    have o3 := ko.cell 3
    have rf := kr.frozen
    have of := ko.frozen
    have zr := kr.lt
    have zo := ko.lt
    simp at r0 r1 r2 r3 o0 o1 o2 o3
    have F2 := Lib.hid f2
    clear k2 k3 hown hgr hsr hfs hn cw hq ha hown' f2
    go_wp2
    refine bodyPost_ret (v := .agg #[.int .i64 1, .int .i64 e, .slice A1 (wd e) c1, .slice none 0 0]) (by simp [results, Try.results28, go_sem, r0, r1, r2, r3, ← F2.out]) rfl ⟨⟨A1, c1, none, 0, ?_, ?_⟩, ?_⟩
    · unfold GV gCells
      simp only [G.kind, G.dim, G.nums, G.kids]
      rw [← F2.out]; rfl
    · refine GX.of (?_ : FX _ _ _ _) f1 (Nat.le_refl _) (GsX.nil _ _ _)
      exact (((((f3.setBelow (by dsimp only; omega) _).setBelow (by dsimp only; omega) _).setBelow (by dsimp only; omega) _).setBelow (by dsimp only; omega) _).setBelow (by dsimp only; omega) _).up (by omega)
    · repeat (first | exact hb3 | refine b_set ?_ _ (by first | (simp; done) | (simp; omega)) _)
  · have hN2 : 2 ≤ N := by omega
    rw [show min N 1 = 1 by omega, Nat.one_mul] at hsrc hle hwl
    have hN1I : (1 : Int) < (N : Int) := by omega
    have hN2I : ¬ ((N : Int) ≤ 1) := by omega
    clear hmm hN0 hN1 hwh
    have HSRC := Lib.hid hsrc
    have HWL := Lib.hid hwl
    clear hsrc hwl hle0
    have hWI : (wd e : Int) ≠ 0 := by omega
    have hWI2 : (0 : Int) < (wd e : Int) := by omega
    have cw := fun (w : World) => Calls.inClassEq (w := w) hwd
    have hlf' := Lib.hid hlf
    clear hwd hlf
    have bB : Below w.heap.size w (((w.alloc (.cells #[.int .i64 1, .int .i64 d, .slice A ns.length c, .slice A' kids.length c'] 26)).alloc (.cells #[.int .i64 0, .int .i64 0, .slice none 0 0, .slice none 0 0] 26)).alloc (.cells #[.int .i64 1, .int .i64 e, .slice none 0 0, .slice none 0 0] 26)) := b_alloc (b_alloc (b_alloc (Below.refl _ _) _) _) _
    have k2 := (Blk.newAt (w.alloc (.cells #[.int .i64 1, .int .i64 d, .slice A ns.length c, .slice A' kids.length c'] 26)) 26 #[.int .i64 0, .int .i64 0, .slice none 0 0, .slice none 0 0] (n := w.heap.size + 1) (by simp)).alloc (.cells #[.int .i64 1, .int .i64 e, .slice none 0 0, .slice none 0 0] 26)
    have k3 := Blk.newAt ((w.alloc (.cells #[.int .i64 1, .int .i64 d, .slice A ns.length c, .slice A' kids.length c'] 26)).alloc (.cells #[.int .i64 0, .int .i64 0, .slice none 0 0, .slice none 0 0] 26)) 26 #[.int .i64 1, .int .i64 e, .slice none 0 0, .slice none 0 0] (n := w.heap.size + 1 + 1) (by simp)
    have K2 := Lib.hid k2
    have K3 := Lib.hid k3
    have BB := Lib.hid bB
    clear k2 k3 bB
    go_enter Try.func28, Try.ntmps28
    go_wp2_with (go_at_call 30; refine (hlf'.out _).mono ?_; rintro e w1 ⟨rfl, rfl⟩)
    refine wp_region_below (by kernel_rfl) (by kernel_rfl) ?_
    repeat (go_big_quiet_step ((with_reducible exact cw _ _)))
    refine wpQuiet_nil ?_
    intro w1 hb1
    have k2 := K2.out.stay hb1
    have k3 := K3.out.stay hb1
    have hbw := b_trans BB.out hb1
    obtain ⟨bcw1, bfw1⟩ := bcell hb1
    have zw1_0 : w.heap.size < w1.heap.size := by have := hb1.size; (try simp at this); omega
    have zw1_1 : w.heap.size + 1 < w1.heap.size := by have := hb1.size; (try simp at this); omega
    have zw1_2 : w.heap.size + 1 + 1 < w1.heap.size := by have := hb1.size; (try simp at this); omega
    go_wp2
    refine wp_tail_below 10 (by kernel_rfl) (by kernel_rfl) ?_
    simp only [List.take_succ_cons, List.take_zero, List.drop_succ_cons, List.drop_zero]
    repeat (go_big_quiet_step ((with_reducible exact cw _ _)))
    refine wpQuiet_nil ?_
    intro w2 hb2
    have k2 := k2.stay hb2
    have k3 := k3.stay hb2
    have hbw := b_trans hbw hb2
    have hfs := hn.below hbw hbw.size
    have hsr := HSRC.out w2 hbw
    have z3 := k3.lt
    clear hb1 hb2 BB K2 K3 HSRC
    refine wpList_app slF (by rfl) _ _ (by rfl) (w.heap.size + 3) (A := none) (n := 0) (c := 0) (xs := []) (by rfl) (World.ownsRow_nil _ _ _ _) (X := A) (m := (wd e)) (cx := c) (fl (leafN1 e ns)) (by rfl) (by rw [fl_length, HWL.out, Nat.mul_one]) hsr (fl_one _) (fun h => ?_) (by unfold maxLen; omega) (by omega) (by omega) ?_
    · first
      | rfl
      | (by_cases h0 : ns = []
         · subst h0; simp at hle; exact hle
         · obtain ⟨b, off, e1, _⟩ := hn h0
           rw [h] at e1; cases e1)
    intro A1 c1 w3 hown hgr
    have kr := k2.grown hgr (by simp [Value.ownBlock])
    have ko := k3.grown hgr (by simp [Value.ownBlock])
    have hb3 : Below w.heap.size w w3 := b_grown hbw hgr (by omega) (by simp [Value.ownBlock])
    have hown' : w3.ownsRow (w.heap.size + 3) 66 1 (.slice A1 (0 + (wd e)) c1) (0 + (wd e)) (fl (leafN1 e ns)) := by simpa using hown
    obtain ⟨f1, f2, _⟩ := fs_of_own hown'
    have f3 := fx_of_own hown'
    rw [Nat.zero_add] at f2
    have r0 := kr.cell 0
    have r1 := kr.cell 1
    have r2 := kr.cell 2
    have r3 := kr.cell 3
    have o0 := ko.cell 0
    have o1 := ko.cell 1
    have o2 := ko.cell 2
    have o3 := ko.cell 3
    have rf := kr.frozen
    have of := ko.frozen
    have zr := kr.lt
    have zo := ko.lt
    simp at r0 r1 r2 r3 o0 o1 o2 o3
    have F2 := Lib.hid f2
    clear k2 k3 hown hgr hsr hfs hn cw hq ha hown' f2
    go_wp2
    refine bodyPost_ret (v := .agg #[.int .i64 1, .int .i64 e, .slice A1 (wd e) c1, .slice none 0 0]) (by simp [results, Try.results28, go_sem, r0, r1, r2, r3, ← F2.out]) rfl ⟨⟨A1, c1, none, 0, ?_, ?_⟩, ?_⟩
    · unfold GV gCells
      simp only [G.kind, G.dim, G.nums, G.kids]
      rw [← F2.out]; rfl
    · refine GX.of (?_ : FX _ _ _ _) f1 (Nat.le_refl _) (GsX.nil _ _ _)
      exact (((((f3.setBelow (by dsimp only; omega) _).setBelow (by dsimp only; omega) _).setBelow (by dsimp only; omega) _).setBelow (by dsimp only; omega) _).setBelow (by dsimp only; omega) _).up (by omega)
    · repeat (first | exact hb3 | refine b_set ?_ _ (by first | (simp; done) | (simp; omega)) _)

/-- the numbers of a new leaf -/
def leafN2 (e : Nat) (ns : List Nat) : List Nat := ns.take ((ns.length / wd e) * wd e)
set_option maxHeartbeats 4000000 in
theorem newleaf2_any (d : Int) (ns : List Nat) (kids : List G) (A : Option Addr) (c : Nat) (A' : Option Addr) (c' : Nat) (hm : ns.length ≤ 100000) (w : World) (hg : GM w w.heap.size (.mk 2 d ns kids) A c A' c') :
    Calls Try.prog 28 #[GV (.mk 2 d ns kids) A c A' c'] w fun r w' => GRz w.heap.size (.mk 2 (dim3 d) (leafN2 (dim3 d) ns) []) r w' ∧ Below w.heap.size w w' := by
  obtain ⟨hn, hc, _, _⟩ := hg.parts
  have hd := dim3_lt d
  have ha := and3 d
  have hwd := fun w => width_any (dim3 d) hd w
  have hlf := fun w => leaf_any 2 w
  simp only [decide_true, Bool.true_or, Bool.or_true] at hlf
  unfold GV gCells GRz
  simp only [G.kind, G.dim, G.nums, G.kids] at *
  have hda : (d % 4 : Int) = (dim3 d : Int) := by unfold dim3; omega
  clear hg
  rw [hda] at ha
  clear hda
  generalize dim3 d = e at *
  have hw := wd_le e
  have hle0 := div_mul_le' ns.length (wd e)
  have hle : (ns.length / wd e) * wd e ≤ ns.length := Nat.le_trans (Nat.mul_le_mul_right _ (by omega)) hle0
  have hsrc := fun (w' : World) (hb : Below w.heap.size w w') => fs_cell1 (hn.below hb hb.size) ((ns.length / wd e) * wd e) hle
  have hwh : leafN2 e ns = ns.take ((ns.length / wd e) * wd e) := rfl
  have hwl : (leafN2 e ns).length = (ns.length / wd e) * wd e := by rw [hwh, List.length_take]; omega
  rw [← hwh] at hsrc
  have hq : ((ns.length : Int) / (wd e : Int)) = ((ns.length / wd e : Nat) : Int) := (Int.natCast_ediv _ _).symm
  have hN : ns.length / wd e ≤ 100000 := Nat.le_trans (Nat.div_le_self _ _) hm
  have hmm : (((ns.length / wd e) : Nat) : Int) * (wd e : Int) = (((ns.length / wd e) * wd e : Nat) : Int) := (Int.natCast_mul _ _).symm
  generalize ns.length / wd e * wd e = M at *
  generalize ns.length / wd e = N at *
  clear hwh
  have HSRC := Lib.hid hsrc
  have HWL := Lib.hid hwl
  clear hsrc hwl hle0
  have hWI : (wd e : Int) ≠ 0 := by omega
  have hWI2 : (0 : Int) < (wd e : Int) := by omega
  have cw := fun (w : World) => Calls.inClassEq (w := w) hwd
  have hlf' := Lib.hid hlf
  clear hwd hlf
  have bB : Below w.heap.size w (((w.alloc (.cells #[.int .i64 2, .int .i64 d, .slice A ns.length c, .slice A' kids.length c'] 26)).alloc (.cells #[.int .i64 0, .int .i64 0, .slice none 0 0, .slice none 0 0] 26)).alloc (.cells #[.int .i64 2, .int .i64 e, .slice none 0 0, .slice none 0 0] 26)) := b_alloc (b_alloc (b_alloc (Below.refl _ _) _) _) _
  have k2 := (Blk.newAt (w.alloc (.cells #[.int .i64 2, .int .i64 d, .slice A ns.length c, .slice A' kids.length c'] 26)) 26 #[.int .i64 0, .int .i64 0, .slice none 0 0, .slice none 0 0] (n := w.heap.size + 1) (by simp)).alloc (.cells #[.int .i64 2, .int .i64 e, .slice none 0 0, .slice none 0 0] 26)
  have k3 := Blk.newAt ((w.alloc (.cells #[.int .i64 2, .int .i64 d, .slice A ns.length c, .slice A' kids.length c'] 26)).alloc (.cells #[.int .i64 0, .int .i64 0, .slice none 0 0, .slice none 0 0] 26)) 26 #[.int .i64 2, .int .i64 e, .slice none 0 0, .slice none 0 0] (n := w.heap.size + 1 + 1) (by simp)
  have K2 := Lib.hid k2
  have K3 := Lib.hid k3
  have BB := Lib.hid bB
  clear k2 k3 bB
  go_enter Try.func28, Try.ntmps28
  go_wp2_with (go_at_call 30; refine (hlf'.out _).mono ?_; rintro e w1 ⟨rfl, rfl⟩)
  refine wp_region_below (by kernel_rfl) (by kernel_rfl) ?_
  repeat (go_big_quiet_step ((with_reducible exact cw _ _)))
  refine wpQuiet_nil ?_
  intro w1 hb1
  have k2 := K2.out.stay hb1
  have k3 := K3.out.stay hb1
  have hbw := b_trans BB.out hb1
  obtain ⟨bcw1, bfw1⟩ := bcell hb1
  have zw1_0 : w.heap.size < w1.heap.size := by have := hb1.size; (try simp at this); omega
  have zw1_1 : w.heap.size + 1 < w1.heap.size := by have := hb1.size; (try simp at this); omega
  have zw1_2 : w.heap.size + 1 + 1 < w1.heap.size := by have := hb1.size; (try simp at this); omega
  go_wp2
  refine wp_tail_below 10 (by kernel_rfl) (by kernel_rfl) ?_
  simp only [List.take_succ_cons, List.take_zero, List.drop_succ_cons, List.drop_zero]
  repeat (go_big_quiet_step ((with_reducible exact cw _ _)))
  refine wpQuiet_nil ?_
  intro w2 hb2
  have k2 := k2.stay hb2
  have k3 := k3.stay hb2
  have hbw := b_trans hbw hb2
  have hfs := hn.below hbw hbw.size
  have hsr := HSRC.out w2 hbw
  have z3 := k3.lt
  clear hb1 hb2 BB K2 K3 HSRC
  refine wpList_app slF (by rfl) _ _ (by rfl) (w.heap.size + 3) (A := none) (n := 0) (c := 0) (xs := []) (by rfl) (World.ownsRow_nil _ _ _ _) (X := A) (m := M) (cx := c) (fl (leafN2 e ns)) (by rfl) (by rw [fl_length, HWL.out, Nat.mul_one]) hsr (fl_one _) (fun h => ?_) (by unfold maxLen; omega) (by omega) (by omega) ?_
  · first
    | rfl
    | (by_cases h0 : ns = []
       · subst h0; simp at hle; exact hle
       · obtain ⟨b, off, e1, _⟩ := hn h0
         rw [h] at e1; cases e1)
  intro A1 c1 w3 hown hgr
  have kr := k2.grown hgr (by simp [Value.ownBlock])
  have ko := k3.grown hgr (by simp [Value.ownBlock])
  have hb3 : Below w.heap.size w w3 := b_grown hbw hgr (by omega) (by simp [Value.ownBlock])
  have hown' : w3.ownsRow (w.heap.size + 3) 66 1 (.slice A1 (0 + M) c1) (0 + M) (fl (leafN2 e ns)) := by simpa using hown
  obtain ⟨f1, f2, _⟩ := fs_of_own hown'
  have f3 := fx_of_own hown'
  rw [Nat.zero_add] at f2
  have r0 := kr.cell 0
  have r1 := kr.cell 1
  have r2 := kr.cell 2
  have r3 := kr.cell 3
  have o0 := ko.cell 0
  have o1 := ko.cell 1
  have o2 := ko.cell 2
  have o3 := ko.cell 3
  have rf := kr.frozen
  have of := ko.frozen
  have zr := kr.lt
  have zo := ko.lt
  simp at r0 r1 r2 r3 o0 o1 o2 o3
  have F2 := Lib.hid f2
  clear k2 k3 hown hgr hsr hfs hn cw hq ha hown' f2
  go_wp2
  refine bodyPost_ret (v := .agg #[.int .i64 2, .int .i64 e, .slice A1 M c1, .slice none 0 0]) (by simp [results, Try.results28, go_sem, r0, r1, r2, r3, ← F2.out]) rfl ⟨⟨A1, c1, none, 0, ?_, ?_⟩, ?_⟩
  · unfold GV gCells
    simp only [G.kind, G.dim, G.nums, G.kids]
    rw [← F2.out]; rfl
  · refine GX.of (?_ : FX _ _ _ _) f1 (Nat.le_refl _) (GsX.nil _ _ _)
    exact (((((f3.setBelow (by dsimp only; omega) _).setBelow (by dsimp only; omega) _).setBelow (by dsimp only; omega) _).setBelow (by dsimp only; omega) _).setBelow (by dsimp only; omega) _).up (by omega)
  · repeat (first | exact hb3 | refine b_set ?_ _ (by first | (simp; done) | (simp; omega)) _)

end Geo
end Go.Proofs.Ytllomldpbkeioaa
