/- Walks: new geometries with parts, as the reference has them. -/
import Derived.Test.YtllomldpbkeioaaGN
namespace Go.Proofs.Ytllomldpbkeioaa
open Go.RowKit Go.Sort
namespace Geo
set_option linter.unusedSimpArgs false
theorem and44 {a b : Nat} (ha : a < 4) (hb : b < 4) : bits .and .i64 (a : Int) (b : Int) = ((a &&& b : Nat) : Int) := by
  rcases four ha with rfl | rfl | rfl | rfl <;> rcases four hb with rfl | rfl | rfl | rfl <;> decide +kernel
theorem dimsAnd_snoc (L : List G) (m : G) : dimsAnd (L ++ [m]) = dimsAnd L &&& m.dim.toNat := by
  unfold dimsAnd; rw [List.foldl_append]; rfl
theorem filter_snoc (p : G → Bool) (L : List G) (m : G) : (L ++ [m]).filter p = if p m then L.filter p ++ [m] else L.filter p := by
  rw [List.filter_append]
  cases h : p m <;> simp [h]
def SNc (g : G) : Prop := allG smallN g → ∀ (A : Option Addr) (c : Nat) (A' : Option Addr) (c' : Nat) (w : World), GM w w.heap.size g A c A' c' →
  Calls Try.prog 28 #[GV g A c A' c'] w fun r w' => GRz w.heap.size (newG g) r w' ∧ Below w.heap.size w w'
theorem OwnGs.len {w : World} {B : Nat} {e : TypeId} {A : Option Addr} {n c : Nat} {gs : List G} (h : OwnGs w B e (.slice A n c) gs) : n = gs.length ∧ gs.length ≤ c := ⟨h.gs.2.1, h.gs.1⟩
set_option maxHeartbeats 16000000 in
theorem new_any (g : G) : SNc g := by
  induction g using G.ind with
  | _ k d ns kids ih =>
    intro hok A c A' c' w hg
    rw [allG_iff] at hok
    obtain ⟨⟨hns, hkl⟩, hokk⟩ := hok
    rw [newG_eq]
    unfold newTop
    by_cases hk1 : k = 1
    · subst hk1
      rw [if_pos (by unfold kindN; rw [if_neg (by omega)])]
      exact newleaf1_any d ns kids A c A' c' (by omega) w hg
    by_cases hk2 : k = 2
    · subst hk2
      rw [if_neg (by unfold kindN; rw [if_neg (by omega)]; decide), if_pos (by unfold kindN; rw [if_neg (by omega)])]
      exact newleaf2_any d ns kids A c A' c' (by omega) w hg
    have hkn1 : kindN k ≠ 1 := by unfold kindN; split <;> omega
    have hkn2 : kindN k ≠ 2 := by unfold kindN; split <;> omega
    rw [if_neg hkn1, if_neg hkn2]
    obtain ⟨_, _, _, hgs⟩ := hg.parts
    simp only [G.kids] at hgs
    have he := dim3_lt d
    have ha := and3 d
    have hda : (d % 4 : Int) = (dim3 d : Int) := by unfold dim3; omega
    rw [hda] at ha
    clear hda hg
    have hlf := fun w => leaf_any (kindN k) w
    rw [decide_eq_false hkn1, decide_eq_false hkn2] at hlf
    have hkd := fun (w : World) => Calls.inClassEq (w := w) (kidof_any (kindN k))
    obtain ⟨KS, hKS⟩ : ∃ KS : Nat → List G, KS = fun j => ((kids.take j).map newG).filter (keeps (kindN k)) := ⟨_, rfl⟩
    have hKS0 : KS 0 = [] := by rw [hKS]; rfl
    have hKSn : (kids.map newG).filter (keeps (kindN k)) = KS kids.length := by rw [hKS]; simp only [List.take_length]
    have hKSl : ∀ j, (KS j).length ≤ 2000 := by
      intro j; rw [hKS]
      exact Nat.le_trans (filter_len _) (by rw [List.length_map, List.length_take]; omega)
    have hKSs : ∀ j (h : j < kids.length), KS (j + 1) = if keeps (kindN k) (newG kids[j]) then KS j ++ [newG kids[j]] else KS j := by
      intro j h
      rw [hKS]
      show ((kids.take (j + 1)).map newG).filter _ = _
      rw [List.take_succ_eq_append_getElem h, List.map_append]
      exact filter_snoc _ _ _
    have hKSok : allG okF (.mk (kindN k) (dim3 d) [] (KS kids.length)) := by
      rw [allG_iff]
      refine ⟨⟨by omega, by omega, Nat.zero_le _, hKSl _⟩, fun x hx => ?_⟩
      rw [← hKSn] at hx
      obtain ⟨y, hy, rfl⟩ := List.mem_map.1 (List.mem_filter.1 hx).1
      obtain ⟨e, he, _, hall⟩ := new_oneD y (hokk y hy)
      exact oneD_okF he _ hall
    have hnew : ∀ j (h : j < kids.length), ∃ e : Nat, e < 4 ∧ (newG kids[j]).dim = e := fun j h => by
      obtain ⟨e, he, hd, _⟩ := new_oneD kids[j] (hokk _ (List.getElem_mem h))
      exact ⟨e, he, hd⟩
    rw [hKSn]
    have hkk : ∀ m, keeps (kindN k) m = (decide (kidOf (kindN k) < 0) || decide (kidOf (kindN k) = m.kind)) := fun m => rfl
    have HKK := Lib.hid hkk
    have hCase : (0 ≤ k ∧ k ≤ 6 ∧ kindN k = k) ∨ (k < 0 ∧ kindN k = 0) ∨ (6 < k ∧ ¬ (k < 0) ∧ kindN k = 0) := by unfold kindN; split <;> omega
    generalize hkk' : kindN k = kk at *
    generalize kidOf kk = K at *
    clear hKS hKSn hkk hkk' hk1 hk2
    have HOK := Lib.hid hKSok
    have HS := Lib.hid hKSs
    have HL := Lib.hid hKSl
    have HN := Lib.hid hnew
    have HK0 := Lib.hid hKS0
    clear hKSok hKSs hKSl hnew hKS0 hkn1 hkn2
    generalize dim3 d = e at *
    obtain ⟨R, hR⟩ : ∃ R, R = (if KS kids.length = [] then G.mk kk e [] [] else forceG (dimsAnd (KS kids.length)) (.mk kk e [] (KS kids.length))) := ⟨_, rfl⟩
    rw [← hR]
    have HR := Lib.hid hR
    clear hR
    rw [show GV (.mk k d ns kids) A c A' c' = .agg #[.int .i64 k, .int .i64 d, .slice A ns.length c, .slice A' kids.length c'] from rfl]
    unfold GRz GV gCells
    have k1' := fun x : Int => Blk.newAt (w.alloc (.cells #[.int .i64 x, .int .i64 d, .slice A ns.length c, .slice A' kids.length c'] 26)) 26 #[.int .i64 0, .int .i64 0, .slice none 0 0, .slice none 0 0] (n := w.heap.size + 1) (by simp)
    have HLF := Lib.hid hlf
    clear hlf
    rcases hCase with ⟨q0, q6, rfl⟩ | ⟨hq, rfl⟩ | ⟨hq, hq', rfl⟩
    · have k0' := Blk.newAt ((w.alloc (.cells #[.int .i64 kk, .int .i64 d, .slice A ns.length c, .slice A' kids.length c'] 26)).alloc (.cells #[.int .i64 0, .int .i64 0, .slice none 0 0, .slice none 0 0] 26)) 26 #[.int .i64 kk, .int .i64 e, .slice none 0 0, .slice none 0 0] (n := w.heap.size + 1 + 1) (by simp)
      have k1 := (k1' kk).alloc (.cells #[.int .i64 kk, .int .i64 e, .slice none 0 0, .slice none 0 0] 26)
      have hb0 : Below w.heap.size w (((w.alloc (.cells #[.int .i64 kk, .int .i64 d, .slice A ns.length c, .slice A' kids.length c'] 26)).alloc (.cells #[.int .i64 0, .int .i64 0, .slice none 0 0, .slice none 0 0] 26)).alloc (.cells #[.int .i64 kk, .int .i64 e, .slice none 0 0, .slice none 0 0] 26)) := b_alloc (b_alloc (b_alloc (Below.refl _ _) _) _) _
      have hacc0 : dimsAnd [] = 3 := rfl
      clear k1'
      go_enter Try.func28, Try.ntmps28
      go_wp2_with (go_at_call 30; refine (HLF.out _).mono ?_; rintro e w1 ⟨rfl, rfl⟩)
      clear HLF ha
      go_loopw [5, 55] (fun acc i wr => ∃ (j n : Nat) (Ao : Option Addr) (co : Nat), j ≤ kids.length ∧ acc = .int .i64 (dimsAnd (KS j) : Nat) ∧ i = .int .i64 j ∧ OwnGs wr (w.heap.size + 3) 26 (.slice Ao n co) (KS j) ∧
        Blk wr (w.heap.size + 1 + 1) 26 #[.int .i64 kk, .int .i64 e, .slice none 0 0, .slice Ao n co] ∧ Blk wr (w.heap.size + 1) 26 #[.int .i64 0, .int .i64 0, .slice none 0 0, .slice none 0 0] ∧ Below w.heap.size w wr) (fun _ i _ => kids.length - (intOf i).toNat)
      case atStart =>
        refine ⟨0, 0, none, 0, Nat.zero_le _, by rw [HK0.out]; rfl, rfl, by rw [HK0.out]; exact OwnGs.nil _ _ _, k0', k1, hb0⟩
      case round =>
        clear k0' k1 hb0
        obtain ⟨j, n, Ao, co, hj, rfl, rfl, hown, ko, kr, hb⟩ := hrel
        obtain ⟨hnl, hnc⟩ := hown.len
        have hKl := HL.out j
        have hn2 : n ≤ 2000 := by omega
        have HNL := Lib.hid hnl
        clear hnl hnc hKl
        by_cases hlt : j < kids.length
        · obtain ⟨b, off, B1, d1, B2, d2, rfl, hbl, q0', q1', q2', q3', hgm⟩ := (hgs.below hb hb.size).at hlt
          have hih := ih kids[j] (List.getElem_mem hlt) (hokk _ (List.getElem_mem hlt)) B1 d1 B2 d2
          have hba := b_alloc (Below.refl wr.heap.size wr) (.cells (gCells kids[j] B1 d1 B2 d2) 26)
          have hg7 := hgm.mov hba hba.size
          obtain ⟨em, hem, hdm⟩ := HN.out j hlt
          have hsj := HS.out j hlt
          have HSj := Lib.hid hsj
          unfold GRz at hih
          unfold GV gCells at *
          generalize newG kids[j] = m at *
          generalize kids[j] = g0 at *
          rw [hdm] at hih
          have HDM := Lib.hid hdm
          have IH := Lib.hid hih
          have hB0 := b_trans hb hba
          have ko1 := ko.alloc (.cells #[.int .i64 g0.kind, .int .i64 g0.dim, .slice B1 g0.nums.length d1, .slice B2 g0.kids.length d2] 26)
          have kr1 := kr.alloc (.cells #[.int .i64 g0.kind, .int .i64 g0.dim, .slice B1 g0.nums.length d1, .slice B2 g0.kids.length d2] 26)
          have hown1 := hown.below hba
          have hownlt : ∀ b, Value.ownBlock (.slice Ao n co) = some b → b < (wr.alloc (.cells #[.int .i64 g0.kind, .int .i64 g0.dim, .slice B1 g0.nums.length d1, .slice B2 g0.kids.length d2] 26)).heap.size := own_lt hown1
          have zwr := ko.lt
          clear hdm hsj hgm hih hown ko kr
          go_wp2_with fail
          refine (IH.out _ hg7).mono ?_
          rintro e9 w3 ⟨⟨A3, c3, A4, c4, rfl, hgx⟩, hb3⟩
          have hb4 := b_alloc hb3 (.cells #[.int .i64 m.kind, .int .i64 em, .slice A3 m.nums.length c3, .slice A4 m.kids.length c4] 26)
          have ko2 := ko1.stay hb3
          have oc0 := ko2.cell 0
          have oc3 := ko2.cell 3
          simp at oc0 oc3
          have zo2 := ko2.lt
          have zo2' : w.heap.size + 1 + 1 < w3.heap.size + 1 := by omega
          have ko3 := (ko1.stay hb3).alloc (.cells #[.int .i64 m.kind, .int .i64 em, .slice A3 m.nums.length c3, .slice A4 m.kids.length c4] 26)
          have kr3 := (kr1.stay hb3).alloc (.cells #[.int .i64 m.kind, .int .i64 em, .slice A3 m.nums.length c3, .slice A4 m.kids.length c4] 26)
          have km3 := Blk.new w3 26 #[.int .i64 m.kind, .int .i64 em, .slice A3 m.nums.length c3, .slice A4 m.kids.length c4]
          have hown3 := hown1.below hb4
          have hB3 := b_trans hB0 hb4
          have z3 : wr.heap.size + 1 ≤ w3.heap.size := by have := hb3.size; simpa using this
          have hgx4 : GX (w3.alloc (.cells #[.int .i64 m.kind, .int .i64 em, .slice A3 m.nums.length c3, .slice A4 m.kids.length c4] 26)) (Fr (wr.alloc (.cells #[.int .i64 g0.kind, .int .i64 g0.dim, .slice B1 g0.nums.length d1, .slice B2 g0.kids.length d2] 26)).heap.size (w3.alloc (.cells #[.int .i64 m.kind, .int .i64 em, .slice A3 m.nums.length c3, .slice A4 m.kids.length c4] 26))) m A3 c3 A4 c4 := hgx.stay (b_alloc (Below.refl _ _) _)
          clear hba hg7 q0' q1' q2' q3' hb3 ko1 kr1 hown1 hgx IH
          go_wp2_with fail
          by_cases hneg : K < 0
          · skip
            refine wp_region_below (by kernel_rfl) (by kernel_rfl) ?_
            repeat (go_big_quiet_step ((with_reducible exact hkd _ _)))
            refine wpQuiet_nil ?_
            intro w5 hb5
            have hkeep : keeps kk m = true := by rw [HKK.out]; simp [hneg]
            have hs1 := HSj.out
            rw [hkeep, if_pos rfl] at hs1
            have HS1 := Lib.hid hs1
            have hda2 := dimsAnd_snoc (KS j) m
            rw [HDM.out, Int.toNat_natCast] at hda2
            have HDA := Lib.hid hda2
            have hand := and44 (dimsAnd_lt (KS j)) hem
            have hacc : dimsAnd (KS j) < 4 := dimsAnd_lt _
            generalize dimsAnd (KS j) = acc at *
            have ko5 := ko3.stay hb5
            have kr5 := kr3.stay hb5
            have km5 := km3.stay hb5
            have hB5 := b_trans hB3 hb5
            have hgx5 := hgx4.stay hb5
            obtain ⟨L, hL1, hL2, hL3⟩ := (hown3.below hb5).alloc (.cells #[.int .i64 m.kind, .int .i64 em, .slice A3 m.nums.length c3, .slice A4 m.kids.length c4] 26)
            have hLl : L.length = n := by rw [HNL.out, ← hL1, List.length_map]
            have hL2' : (w5.alloc (.cells #[.int .i64 m.kind, .int .i64 em, .slice A3 m.nums.length c3, .slice A4 m.kids.length c4] 26)).ownsRow (w.heap.size + 3) 26 4 (.slice Ao n co) n (q4s L) := by rw [hLl] at hL2; exact hL2
            have hq : GX (w5.alloc (.cells #[.int .i64 m.kind, .int .i64 em, .slice A3 m.nums.length c3, .slice A4 m.kids.length c4] 26)) (Av (w.heap.size + 3) (w5.alloc (.cells #[.int .i64 m.kind, .int .i64 em, .slice A3 m.nums.length c3, .slice A4 m.kids.length c4] 26)) (.slice Ao n co)) m A3 c3 A4 c4 := gx_fresh hownlt hgx5 (by simp; omega) _
            have o0 := ko5.cell 0
            have o3 := ko5.cell 3
            have m0 := km5.cell 0
            have m1 := km5.cell 1
            have m2 := km5.cell 2
            have m3 := km5.cell 3
            have zo := ko5.lt
            have zm := km5.lt
            simp at o0 o3 m0 m1 m2 m3
            have ko6 := ko5.alloc (.cells #[.int .i64 m.kind, .int .i64 em, .slice A3 m.nums.length c3, .slice A4 m.kids.length c4] 26)
            have kr6 := kr5.alloc (.cells #[.int .i64 m.kind, .int .i64 em, .slice A3 m.nums.length c3, .slice A4 m.kids.length c4] 26)
            have km6 := km5.alloc (.cells #[.int .i64 m.kind, .int .i64 em, .slice A3 m.nums.length c3, .slice A4 m.kids.length c4] 26)
            have hB6 := b_alloc hB5 (.cells #[.int .i64 m.kind, .int .i64 em, .slice A3 m.nums.length c3, .slice A4 m.kids.length c4] 26)
            clear hs1 hda2 hkeep ko3 kr3 km3 hB3 hgx4 ko5 kr5 km5 hB5 hown3 oc0 oc3 ko2
            go_wp2_with (at_builtin; refine wpList_app2 slGg (by rfl) _ _ (by rfl) (w.heap.size + 3) (A := Ao) (n := n) (c := co) (xs := q4s L) (by rfl) hL2' (X := some ⟨w5.heap.size, 0, none⟩) (m := 1) (cx := 1) #[.int .i64 m.kind, .int .i64 em, .slice A3 m.nums.length c3, .slice A4 m.kids.length c4].toList (by rfl) (by rfl) (cell1_blk (Blk.newAt _ _ _ rfl) 1) (fun u hu => by simp at hu; rcases hu with rfl | rfl | rfl | rfl <;> rfl) (fun h => by cases h) (by unfold maxLen; omega) (by omega) (by simp; omega) ?_; intro A5 c5 w6 hown6 hgr6 hnew6; have hown7 := OwnGs.step hL1 hL3 ⟨m, A3, c3, A4, c4⟩ (by have h9 := hown6; rw [show #[.int .i64 m.kind, .int .i64 em, .slice A3 m.nums.length c3, .slice A4 m.kids.length c4].toList = Q4.cells ⟨m, A3, c3, A4, c4⟩ by unfold Q4.cells gCells; rw [HDM.out]] at h9; exact h9) hLl.symm hgr6 hnew6 hq; have ko7 := ko6.grown hgr6 (own_far hL2' (by omega)); have kr7 := kr6.grown hgr6 (own_far hL2' (by omega)); have km7 := km6.grown hgr6 (own_ne hownlt (by simp; omega)); have hB7 := b_grown hB6 hgr6 hB6.size (fun b hb => by have := (hL2'.lt b hb).1; omega); have o7 := ko7.cell 3; have m7 := km7.cell 1; have fz7 := ko7.frozen; have zo7 := ko7.lt; have zm7 := km7.lt; simp at o7 m7)
            go_roundw
            case rel =>
              refine ⟨j + 1, n + 1, A5, c5, by omega, by rw [HS1.out, HDA.out], by go_num, ?_, (ko7.set_ _ _).cast (by simp), kr7.far (by simp) _, b_set hB7 _ (by dsimp only; omega) _⟩
              rw [HS1.out]
              exact hown7.set (by dsimp only; omega) _
            case measure => simp [intOf]; omega
          · by_cases hmk : K = m.kind
            · subst hmk
              refine wp_region_below (by kernel_rfl) (by kernel_rfl) ?_
              repeat (go_big_quiet_step ((with_reducible exact hkd _ _)))
              refine wpQuiet_nil ?_
              intro w5 hb5
              have hkeep : keeps kk m = true := by rw [HKK.out]; simp []
              have hs1 := HSj.out
              rw [hkeep, if_pos rfl] at hs1
              have HS1 := Lib.hid hs1
              have hda2 := dimsAnd_snoc (KS j) m
              rw [HDM.out, Int.toNat_natCast] at hda2
              have HDA := Lib.hid hda2
              have hand := and44 (dimsAnd_lt (KS j)) hem
              have hacc : dimsAnd (KS j) < 4 := dimsAnd_lt _
              generalize dimsAnd (KS j) = acc at *
              have ko5 := ko3.stay hb5
              have kr5 := kr3.stay hb5
              have km5 := km3.stay hb5
              have hB5 := b_trans hB3 hb5
              have hgx5 := hgx4.stay hb5
              obtain ⟨L, hL1, hL2, hL3⟩ := (hown3.below hb5).alloc (.cells #[.int .i64 m.kind, .int .i64 em, .slice A3 m.nums.length c3, .slice A4 m.kids.length c4] 26)
              have hLl : L.length = n := by rw [HNL.out, ← hL1, List.length_map]
              have hL2' : (w5.alloc (.cells #[.int .i64 m.kind, .int .i64 em, .slice A3 m.nums.length c3, .slice A4 m.kids.length c4] 26)).ownsRow (w.heap.size + 3) 26 4 (.slice Ao n co) n (q4s L) := by rw [hLl] at hL2; exact hL2
              have hq : GX (w5.alloc (.cells #[.int .i64 m.kind, .int .i64 em, .slice A3 m.nums.length c3, .slice A4 m.kids.length c4] 26)) (Av (w.heap.size + 3) (w5.alloc (.cells #[.int .i64 m.kind, .int .i64 em, .slice A3 m.nums.length c3, .slice A4 m.kids.length c4] 26)) (.slice Ao n co)) m A3 c3 A4 c4 := gx_fresh hownlt hgx5 (by simp; omega) _
              have o0 := ko5.cell 0
              have o3 := ko5.cell 3
              have m0 := km5.cell 0
              have m1 := km5.cell 1
              have m2 := km5.cell 2
              have m3 := km5.cell 3
              have zo := ko5.lt
              have zm := km5.lt
              simp at o0 o3 m0 m1 m2 m3
              have ko6 := ko5.alloc (.cells #[.int .i64 m.kind, .int .i64 em, .slice A3 m.nums.length c3, .slice A4 m.kids.length c4] 26)
              have kr6 := kr5.alloc (.cells #[.int .i64 m.kind, .int .i64 em, .slice A3 m.nums.length c3, .slice A4 m.kids.length c4] 26)
              have km6 := km5.alloc (.cells #[.int .i64 m.kind, .int .i64 em, .slice A3 m.nums.length c3, .slice A4 m.kids.length c4] 26)
              have hB6 := b_alloc hB5 (.cells #[.int .i64 m.kind, .int .i64 em, .slice A3 m.nums.length c3, .slice A4 m.kids.length c4] 26)
              clear hs1 hda2 hkeep ko3 kr3 km3 hB3 hgx4 ko5 kr5 km5 hB5 hown3 oc0 oc3 ko2
              go_wp2_with (at_builtin; refine wpList_app2 slGg (by rfl) _ _ (by rfl) (w.heap.size + 3) (A := Ao) (n := n) (c := co) (xs := q4s L) (by rfl) hL2' (X := some ⟨w5.heap.size, 0, none⟩) (m := 1) (cx := 1) #[.int .i64 m.kind, .int .i64 em, .slice A3 m.nums.length c3, .slice A4 m.kids.length c4].toList (by rfl) (by rfl) (cell1_blk (Blk.newAt _ _ _ rfl) 1) (fun u hu => by simp at hu; rcases hu with rfl | rfl | rfl | rfl <;> rfl) (fun h => by cases h) (by unfold maxLen; omega) (by omega) (by simp; omega) ?_; intro A5 c5 w6 hown6 hgr6 hnew6; have hown7 := OwnGs.step hL1 hL3 ⟨m, A3, c3, A4, c4⟩ (by have h9 := hown6; rw [show #[.int .i64 m.kind, .int .i64 em, .slice A3 m.nums.length c3, .slice A4 m.kids.length c4].toList = Q4.cells ⟨m, A3, c3, A4, c4⟩ by unfold Q4.cells gCells; rw [HDM.out]] at h9; exact h9) hLl.symm hgr6 hnew6 hq; have ko7 := ko6.grown hgr6 (own_far hL2' (by omega)); have kr7 := kr6.grown hgr6 (own_far hL2' (by omega)); have km7 := km6.grown hgr6 (own_ne hownlt (by simp; omega)); have hB7 := b_grown hB6 hgr6 hB6.size (fun b hb => by have := (hL2'.lt b hb).1; omega); have o7 := ko7.cell 3; have m7 := km7.cell 1; have fz7 := ko7.frozen; have zo7 := ko7.lt; have zm7 := km7.lt; simp at o7 m7)
              go_roundw
              case rel =>
                refine ⟨j + 1, n + 1, A5, c5, by omega, by rw [HS1.out, HDA.out], by go_num, ?_, (ko7.set_ _ _).cast (by simp), kr7.far (by simp) _, b_set hB7 _ (by dsimp only; omega) _⟩
                rw [HS1.out]
                exact hown7.set (by dsimp only; omega) _
              case measure => simp [intOf]; omega
            · have hmb : (K == m.kind) = false := beq_eq_false_iff_ne.2 hmk
              refine wp_region_below (by kernel_rfl) (by kernel_rfl) ?_
              repeat (go_big_quiet_step ((with_reducible exact hkd _ _)))
              refine wpQuiet_nil ?_
              intro w5 hb5
              have hkeep : keeps kk m = false := by rw [HKK.out]; simp [hmk]; omega
              have hs1 := HSj.out
              rw [hkeep, if_neg (by decide)] at hs1
              have HS1 := Lib.hid hs1
              have ko5 := ko3.stay hb5
              have kr5 := kr3.stay hb5
              have hB5 := b_trans hB3 hb5
              have hown5 := hown3.below hb5
              clear hs1 hkeep ko3 kr3 km3 hB3 hgx4 hown3 oc0 oc3 ko2
              go_wp2_with fail
              go_roundw
              case rel => exact ⟨j + 1, n, Ao, co, by omega, by rw [HS1.out], by go_num, by rw [HS1.out]; exact hown5, ko5, kr5, hB5⟩
              case measure => simp [intOf]; omega
        · obtain rfl : j = kids.length := by omega
          have r0 := kr.cell 0
          have r1 := kr.cell 1
          have r2 := kr.cell 2
          have r3 := kr.cell 3
          have o0 := ko.cell 0
          have o1 := ko.cell 1
          have o2 := ko.cell 2
          have o3 := ko.cell 3
          have fr := kr.frozen
          have zo := ko.lt
          have zr := kr.lt
          simp at r0 r1 r2 r3 o0 o1 o2 o3
          by_cases hE : KS kids.length = []
          · have hn0 : n = 0 := by rw [HNL.out, hE]; rfl
            subst hn0
            have hRe := HR.out
            rw [if_pos hE] at hRe
            have HRE := Lib.hid hRe
            clear hRe hown hE hlt
            go_wp2_with fail
            refine bodyPost_ret (v := .agg #[.int .i64 kk, .int .i64 e, .slice none 0 0, .slice Ao 0 co]) (by simp [results, Try.results28, go_sem, r0, r1, r2, r3]) rfl ⟨⟨none, 0, Ao, co, by rw [HRE.out]; rfl, ?_⟩, ?_⟩
            · rw [HRE.out]
              exact GX.of (FX.nil _ _ _) (Nat.le_refl _) (Nat.zero_le _) (GsX.nil _ _ _)
            · repeat (first | exact hb | refine b_set ?_ _ (by first | (simp; done) | (simp; omega)) _)
          · have hn0 : n ≠ 0 := by
              intro h
              apply hE
              exact List.eq_nil_of_length_eq_zero (by rw [← HNL.out]; exact h)
            have hnz : ((n : Int) == 0) = false := beq_eq_false_iff_ne.2 (by omega)
            have hnz2 : ¬ ((n : Int) = 0) := by omega
            obtain ⟨g1, g2, g3⟩ := hown.gs
            have hRe := HR.out
            rw [if_neg hE] at hRe
            have hgm : GM wr wr.heap.size (.mk kk e [] (KS kids.length)) none 0 Ao co := GM.of (Fs.nil _ _ _) (Nat.le_refl _) g1 (g3.gs Fr.lt)
            have sf := sforce_any _ HOK.out (dimsAnd (KS kids.length)) (dimsAnd_lt _) none 0 Ao co wr hgm
            rw [← hRe] at sf
            rw [show GV (.mk kk e [] (KS kids.length)) none 0 Ao co = .agg #[.int .i64 kk, .int .i64 e, .slice none 0 0, .slice Ao (KS kids.length).length co] from rfl] at sf
            unfold GRz GV gCells at sf
            rw [← HNL.out] at sf
            have SF := Lib.hid sf
            generalize dimsAnd (KS kids.length) = acc at *
            clear hRe hown hE hlt sf hgm g1 g2 g3 hn0
            go_wp2_with fail
            refine SF.out.mono ?_
            rintro e9 w3 ⟨⟨A3, c3, A4, c4, rfl, hgx⟩, hb3⟩
            have kr3 := kr.stay hb3
            have hB3 := b_trans hb hb3
            have r0 := kr3.cell 0
            have r1 := kr3.cell 1
            have r2 := kr3.cell 2
            have r3 := kr3.cell 3
            have fr3 := kr3.frozen
            have zr3 := kr3.lt
            simp at r0 r1 r2 r3
            clear kr ko SF
            go_wp2_with fail
            refine bodyPost_ret (v := .agg #[.int .i64 R.kind, .int .i64 R.dim, .slice A3 R.nums.length c3, .slice A4 R.kids.length c4]) (by simp [results, Try.results28, go_sem, r0, r1, r2, r3]) rfl ⟨⟨A3, c3, A4, c4, rfl, ?_⟩, ?_⟩
            · exact ((((hgx.setBelow (by dsimp only; omega) _).setBelow (by dsimp only; omega) _).setBelow (by dsimp only; omega) _).setBelow (by dsimp only; omega) _).up (by omega)
            · repeat (first | exact hB3 | refine b_set ?_ _ (by first | (simp; done) | (simp; omega)) _)
    · have k0' := Blk.newAt ((w.alloc (.cells #[.int .i64 k, .int .i64 d, .slice A ns.length c, .slice A' kids.length c'] 26)).alloc (.cells #[.int .i64 0, .int .i64 0, .slice none 0 0, .slice none 0 0] 26)) 26 #[.int .i64 0, .int .i64 e, .slice none 0 0, .slice none 0 0] (n := w.heap.size + 1 + 1) (by simp)
      have k1 := (k1' k).alloc (.cells #[.int .i64 0, .int .i64 e, .slice none 0 0, .slice none 0 0] 26)
      have hb0 : Below w.heap.size w (((w.alloc (.cells #[.int .i64 k, .int .i64 d, .slice A ns.length c, .slice A' kids.length c'] 26)).alloc (.cells #[.int .i64 0, .int .i64 0, .slice none 0 0, .slice none 0 0] 26)).alloc (.cells #[.int .i64 0, .int .i64 e, .slice none 0 0, .slice none 0 0] 26)) := b_alloc (b_alloc (b_alloc (Below.refl _ _) _) _) _
      have hacc0 : dimsAnd [] = 3 := rfl
      clear k1'
      go_enter Try.func28, Try.ntmps28
      go_wp2_with (go_at_call 30; refine (HLF.out _).mono ?_; rintro e w1 ⟨rfl, rfl⟩)
      clear HLF ha
      go_loopw [5, 55] (fun acc i wr => ∃ (j n : Nat) (Ao : Option Addr) (co : Nat), j ≤ kids.length ∧ acc = .int .i64 (dimsAnd (KS j) : Nat) ∧ i = .int .i64 j ∧ OwnGs wr (w.heap.size + 3) 26 (.slice Ao n co) (KS j) ∧
        Blk wr (w.heap.size + 1 + 1) 26 #[.int .i64 0, .int .i64 e, .slice none 0 0, .slice Ao n co] ∧ Blk wr (w.heap.size + 1) 26 #[.int .i64 0, .int .i64 0, .slice none 0 0, .slice none 0 0] ∧ Below w.heap.size w wr) (fun _ i _ => kids.length - (intOf i).toNat)
      case atStart =>
        refine ⟨0, 0, none, 0, Nat.zero_le _, by rw [HK0.out]; rfl, rfl, by rw [HK0.out]; exact OwnGs.nil _ _ _, k0', k1, hb0⟩
      case round =>
        clear k0' k1 hb0
        obtain ⟨j, n, Ao, co, hj, rfl, rfl, hown, ko, kr, hb⟩ := hrel
        obtain ⟨hnl, hnc⟩ := hown.len
        have hKl := HL.out j
        have hn2 : n ≤ 2000 := by omega
        have HNL := Lib.hid hnl
        clear hnl hnc hKl
        by_cases hlt : j < kids.length
        · obtain ⟨b, off, B1, d1, B2, d2, rfl, hbl, q0', q1', q2', q3', hgm⟩ := (hgs.below hb hb.size).at hlt
          have hih := ih kids[j] (List.getElem_mem hlt) (hokk _ (List.getElem_mem hlt)) B1 d1 B2 d2
          have hba := b_alloc (Below.refl wr.heap.size wr) (.cells (gCells kids[j] B1 d1 B2 d2) 26)
          have hg7 := hgm.mov hba hba.size
          obtain ⟨em, hem, hdm⟩ := HN.out j hlt
          have hsj := HS.out j hlt
          have HSj := Lib.hid hsj
          unfold GRz at hih
          unfold GV gCells at *
          generalize newG kids[j] = m at *
          generalize kids[j] = g0 at *
          rw [hdm] at hih
          have HDM := Lib.hid hdm
          have IH := Lib.hid hih
          have hB0 := b_trans hb hba
          have ko1 := ko.alloc (.cells #[.int .i64 g0.kind, .int .i64 g0.dim, .slice B1 g0.nums.length d1, .slice B2 g0.kids.length d2] 26)
          have kr1 := kr.alloc (.cells #[.int .i64 g0.kind, .int .i64 g0.dim, .slice B1 g0.nums.length d1, .slice B2 g0.kids.length d2] 26)
          have hown1 := hown.below hba
          have hownlt : ∀ b, Value.ownBlock (.slice Ao n co) = some b → b < (wr.alloc (.cells #[.int .i64 g0.kind, .int .i64 g0.dim, .slice B1 g0.nums.length d1, .slice B2 g0.kids.length d2] 26)).heap.size := own_lt hown1
          have zwr := ko.lt
          clear hdm hsj hgm hih hown ko kr
          go_wp2_with fail
          refine (IH.out _ hg7).mono ?_
          rintro e9 w3 ⟨⟨A3, c3, A4, c4, rfl, hgx⟩, hb3⟩
          have hb4 := b_alloc hb3 (.cells #[.int .i64 m.kind, .int .i64 em, .slice A3 m.nums.length c3, .slice A4 m.kids.length c4] 26)
          have ko2 := ko1.stay hb3
          have oc0 := ko2.cell 0
          have oc3 := ko2.cell 3
          simp at oc0 oc3
          have zo2 := ko2.lt
          have zo2' : w.heap.size + 1 + 1 < w3.heap.size + 1 := by omega
          have ko3 := (ko1.stay hb3).alloc (.cells #[.int .i64 m.kind, .int .i64 em, .slice A3 m.nums.length c3, .slice A4 m.kids.length c4] 26)
          have kr3 := (kr1.stay hb3).alloc (.cells #[.int .i64 m.kind, .int .i64 em, .slice A3 m.nums.length c3, .slice A4 m.kids.length c4] 26)
          have km3 := Blk.new w3 26 #[.int .i64 m.kind, .int .i64 em, .slice A3 m.nums.length c3, .slice A4 m.kids.length c4]
          have hown3 := hown1.below hb4
          have hB3 := b_trans hB0 hb4
          have z3 : wr.heap.size + 1 ≤ w3.heap.size := by have := hb3.size; simpa using this
          have hgx4 : GX (w3.alloc (.cells #[.int .i64 m.kind, .int .i64 em, .slice A3 m.nums.length c3, .slice A4 m.kids.length c4] 26)) (Fr (wr.alloc (.cells #[.int .i64 g0.kind, .int .i64 g0.dim, .slice B1 g0.nums.length d1, .slice B2 g0.kids.length d2] 26)).heap.size (w3.alloc (.cells #[.int .i64 m.kind, .int .i64 em, .slice A3 m.nums.length c3, .slice A4 m.kids.length c4] 26))) m A3 c3 A4 c4 := hgx.stay (b_alloc (Below.refl _ _) _)
          clear hba hg7 q0' q1' q2' q3' hb3 ko1 kr1 hown1 hgx IH
          go_wp2_with fail
          by_cases hneg : K < 0
          · skip
            refine wp_region_below (by kernel_rfl) (by kernel_rfl) ?_
            repeat (go_big_quiet_step ((with_reducible exact hkd _ _)))
            refine wpQuiet_nil ?_
            intro w5 hb5
            have hkeep : keeps 0 m = true := by rw [HKK.out]; simp [hneg]
            have hs1 := HSj.out
            rw [hkeep, if_pos rfl] at hs1
            have HS1 := Lib.hid hs1
            have hda2 := dimsAnd_snoc (KS j) m
            rw [HDM.out, Int.toNat_natCast] at hda2
            have HDA := Lib.hid hda2
            have hand := and44 (dimsAnd_lt (KS j)) hem
            have hacc : dimsAnd (KS j) < 4 := dimsAnd_lt _
            generalize dimsAnd (KS j) = acc at *
            have ko5 := ko3.stay hb5
            have kr5 := kr3.stay hb5
            have km5 := km3.stay hb5
            have hB5 := b_trans hB3 hb5
            have hgx5 := hgx4.stay hb5
            obtain ⟨L, hL1, hL2, hL3⟩ := (hown3.below hb5).alloc (.cells #[.int .i64 m.kind, .int .i64 em, .slice A3 m.nums.length c3, .slice A4 m.kids.length c4] 26)
            have hLl : L.length = n := by rw [HNL.out, ← hL1, List.length_map]
            have hL2' : (w5.alloc (.cells #[.int .i64 m.kind, .int .i64 em, .slice A3 m.nums.length c3, .slice A4 m.kids.length c4] 26)).ownsRow (w.heap.size + 3) 26 4 (.slice Ao n co) n (q4s L) := by rw [hLl] at hL2; exact hL2
            have hq : GX (w5.alloc (.cells #[.int .i64 m.kind, .int .i64 em, .slice A3 m.nums.length c3, .slice A4 m.kids.length c4] 26)) (Av (w.heap.size + 3) (w5.alloc (.cells #[.int .i64 m.kind, .int .i64 em, .slice A3 m.nums.length c3, .slice A4 m.kids.length c4] 26)) (.slice Ao n co)) m A3 c3 A4 c4 := gx_fresh hownlt hgx5 (by simp; omega) _
            have o0 := ko5.cell 0
            have o3 := ko5.cell 3
            have m0 := km5.cell 0
            have m1 := km5.cell 1
            have m2 := km5.cell 2
            have m3 := km5.cell 3
            have zo := ko5.lt
            have zm := km5.lt
            simp at o0 o3 m0 m1 m2 m3
            have ko6 := ko5.alloc (.cells #[.int .i64 m.kind, .int .i64 em, .slice A3 m.nums.length c3, .slice A4 m.kids.length c4] 26)
            have kr6 := kr5.alloc (.cells #[.int .i64 m.kind, .int .i64 em, .slice A3 m.nums.length c3, .slice A4 m.kids.length c4] 26)
            have km6 := km5.alloc (.cells #[.int .i64 m.kind, .int .i64 em, .slice A3 m.nums.length c3, .slice A4 m.kids.length c4] 26)
            have hB6 := b_alloc hB5 (.cells #[.int .i64 m.kind, .int .i64 em, .slice A3 m.nums.length c3, .slice A4 m.kids.length c4] 26)
            clear hs1 hda2 hkeep ko3 kr3 km3 hB3 hgx4 ko5 kr5 km5 hB5 hown3 oc0 oc3 ko2
            go_wp2_with (at_builtin; refine wpList_app2 slGg (by rfl) _ _ (by rfl) (w.heap.size + 3) (A := Ao) (n := n) (c := co) (xs := q4s L) (by rfl) hL2' (X := some ⟨w5.heap.size, 0, none⟩) (m := 1) (cx := 1) #[.int .i64 m.kind, .int .i64 em, .slice A3 m.nums.length c3, .slice A4 m.kids.length c4].toList (by rfl) (by rfl) (cell1_blk (Blk.newAt _ _ _ rfl) 1) (fun u hu => by simp at hu; rcases hu with rfl | rfl | rfl | rfl <;> rfl) (fun h => by cases h) (by unfold maxLen; omega) (by omega) (by simp; omega) ?_; intro A5 c5 w6 hown6 hgr6 hnew6; have hown7 := OwnGs.step hL1 hL3 ⟨m, A3, c3, A4, c4⟩ (by have h9 := hown6; rw [show #[.int .i64 m.kind, .int .i64 em, .slice A3 m.nums.length c3, .slice A4 m.kids.length c4].toList = Q4.cells ⟨m, A3, c3, A4, c4⟩ by unfold Q4.cells gCells; rw [HDM.out]] at h9; exact h9) hLl.symm hgr6 hnew6 hq; have ko7 := ko6.grown hgr6 (own_far hL2' (by omega)); have kr7 := kr6.grown hgr6 (own_far hL2' (by omega)); have km7 := km6.grown hgr6 (own_ne hownlt (by simp; omega)); have hB7 := b_grown hB6 hgr6 hB6.size (fun b hb => by have := (hL2'.lt b hb).1; omega); have o7 := ko7.cell 3; have m7 := km7.cell 1; have fz7 := ko7.frozen; have zo7 := ko7.lt; have zm7 := km7.lt; simp at o7 m7)
            go_roundw
            case rel =>
              refine ⟨j + 1, n + 1, A5, c5, by omega, by rw [HS1.out, HDA.out], by go_num, ?_, (ko7.set_ _ _).cast (by simp), kr7.far (by simp) _, b_set hB7 _ (by dsimp only; omega) _⟩
              rw [HS1.out]
              exact hown7.set (by dsimp only; omega) _
            case measure => simp [intOf]; omega
          · by_cases hmk : K = m.kind
            · subst hmk
              refine wp_region_below (by kernel_rfl) (by kernel_rfl) ?_
              repeat (go_big_quiet_step ((with_reducible exact hkd _ _)))
              refine wpQuiet_nil ?_
              intro w5 hb5
              have hkeep : keeps 0 m = true := by rw [HKK.out]; simp []
              have hs1 := HSj.out
              rw [hkeep, if_pos rfl] at hs1
              have HS1 := Lib.hid hs1
              have hda2 := dimsAnd_snoc (KS j) m
              rw [HDM.out, Int.toNat_natCast] at hda2
              have HDA := Lib.hid hda2
              have hand := and44 (dimsAnd_lt (KS j)) hem
              have hacc : dimsAnd (KS j) < 4 := dimsAnd_lt _
              generalize dimsAnd (KS j) = acc at *
              have ko5 := ko3.stay hb5
              have kr5 := kr3.stay hb5
              have km5 := km3.stay hb5
              have hB5 := b_trans hB3 hb5
              have hgx5 := hgx4.stay hb5
              obtain ⟨L, hL1, hL2, hL3⟩ := (hown3.below hb5).alloc (.cells #[.int .i64 m.kind, .int .i64 em, .slice A3 m.nums.length c3, .slice A4 m.kids.length c4] 26)
              have hLl : L.length = n := by rw [HNL.out, ← hL1, List.length_map]
              have hL2' : (w5.alloc (.cells #[.int .i64 m.kind, .int .i64 em, .slice A3 m.nums.length c3, .slice A4 m.kids.length c4] 26)).ownsRow (w.heap.size + 3) 26 4 (.slice Ao n co) n (q4s L) := by rw [hLl] at hL2; exact hL2
              have hq : GX (w5.alloc (.cells #[.int .i64 m.kind, .int .i64 em, .slice A3 m.nums.length c3, .slice A4 m.kids.length c4] 26)) (Av (w.heap.size + 3) (w5.alloc (.cells #[.int .i64 m.kind, .int .i64 em, .slice A3 m.nums.length c3, .slice A4 m.kids.length c4] 26)) (.slice Ao n co)) m A3 c3 A4 c4 := gx_fresh hownlt hgx5 (by simp; omega) _
              have o0 := ko5.cell 0
              have o3 := ko5.cell 3
              have m0 := km5.cell 0
              have m1 := km5.cell 1
              have m2 := km5.cell 2
              have m3 := km5.cell 3
              have zo := ko5.lt
              have zm := km5.lt
              simp at o0 o3 m0 m1 m2 m3
              have ko6 := ko5.alloc (.cells #[.int .i64 m.kind, .int .i64 em, .slice A3 m.nums.length c3, .slice A4 m.kids.length c4] 26)
              have kr6 := kr5.alloc (.cells #[.int .i64 m.kind, .int .i64 em, .slice A3 m.nums.length c3, .slice A4 m.kids.length c4] 26)
              have km6 := km5.alloc (.cells #[.int .i64 m.kind, .int .i64 em, .slice A3 m.nums.length c3, .slice A4 m.kids.length c4] 26)
              have hB6 := b_alloc hB5 (.cells #[.int .i64 m.kind, .int .i64 em, .slice A3 m.nums.length c3, .slice A4 m.kids.length c4] 26)
              clear hs1 hda2 hkeep ko3 kr3 km3 hB3 hgx4 ko5 kr5 km5 hB5 hown3 oc0 oc3 ko2
              go_wp2_with (at_builtin; refine wpList_app2 slGg (by rfl) _ _ (by rfl) (w.heap.size + 3) (A := Ao) (n := n) (c := co) (xs := q4s L) (by rfl) hL2' (X := some ⟨w5.heap.size, 0, none⟩) (m := 1) (cx := 1) #[.int .i64 m.kind, .int .i64 em, .slice A3 m.nums.length c3, .slice A4 m.kids.length c4].toList (by rfl) (by rfl) (cell1_blk (Blk.newAt _ _ _ rfl) 1) (fun u hu => by simp at hu; rcases hu with rfl | rfl | rfl | rfl <;> rfl) (fun h => by cases h) (by unfold maxLen; omega) (by omega) (by simp; omega) ?_; intro A5 c5 w6 hown6 hgr6 hnew6; have hown7 := OwnGs.step hL1 hL3 ⟨m, A3, c3, A4, c4⟩ (by have h9 := hown6; rw [show #[.int .i64 m.kind, .int .i64 em, .slice A3 m.nums.length c3, .slice A4 m.kids.length c4].toList = Q4.cells ⟨m, A3, c3, A4, c4⟩ by unfold Q4.cells gCells; rw [HDM.out]] at h9; exact h9) hLl.symm hgr6 hnew6 hq; have ko7 := ko6.grown hgr6 (own_far hL2' (by omega)); have kr7 := kr6.grown hgr6 (own_far hL2' (by omega)); have km7 := km6.grown hgr6 (own_ne hownlt (by simp; omega)); have hB7 := b_grown hB6 hgr6 hB6.size (fun b hb => by have := (hL2'.lt b hb).1; omega); have o7 := ko7.cell 3; have m7 := km7.cell 1; have fz7 := ko7.frozen; have zo7 := ko7.lt; have zm7 := km7.lt; simp at o7 m7)
              go_roundw
              case rel =>
                refine ⟨j + 1, n + 1, A5, c5, by omega, by rw [HS1.out, HDA.out], by go_num, ?_, (ko7.set_ _ _).cast (by simp), kr7.far (by simp) _, b_set hB7 _ (by dsimp only; omega) _⟩
                rw [HS1.out]
                exact hown7.set (by dsimp only; omega) _
              case measure => simp [intOf]; omega
            · have hmb : (K == m.kind) = false := beq_eq_false_iff_ne.2 hmk
              refine wp_region_below (by kernel_rfl) (by kernel_rfl) ?_
              repeat (go_big_quiet_step ((with_reducible exact hkd _ _)))
              refine wpQuiet_nil ?_
              intro w5 hb5
              have hkeep : keeps 0 m = false := by rw [HKK.out]; simp [hmk]; omega
              have hs1 := HSj.out
              rw [hkeep, if_neg (by decide)] at hs1
              have HS1 := Lib.hid hs1
              have ko5 := ko3.stay hb5
              have kr5 := kr3.stay hb5
              have hB5 := b_trans hB3 hb5
              have hown5 := hown3.below hb5
              clear hs1 hkeep ko3 kr3 km3 hB3 hgx4 hown3 oc0 oc3 ko2
              go_wp2_with fail
              go_roundw
              case rel => exact ⟨j + 1, n, Ao, co, by omega, by rw [HS1.out], by go_num, by rw [HS1.out]; exact hown5, ko5, kr5, hB5⟩
              case measure => simp [intOf]; omega
        · obtain rfl : j = kids.length := by omega
          have r0 := kr.cell 0
          have r1 := kr.cell 1
          have r2 := kr.cell 2
          have r3 := kr.cell 3
          have o0 := ko.cell 0
          have o1 := ko.cell 1
          have o2 := ko.cell 2
          have o3 := ko.cell 3
          have fr := kr.frozen
          have zo := ko.lt
          have zr := kr.lt
          simp at r0 r1 r2 r3 o0 o1 o2 o3
          by_cases hE : KS kids.length = []
          · have hn0 : n = 0 := by rw [HNL.out, hE]; rfl
            subst hn0
            have hRe := HR.out
            rw [if_pos hE] at hRe
            have HRE := Lib.hid hRe
            clear hRe hown hE hlt
            go_wp2_with fail
            refine bodyPost_ret (v := .agg #[.int .i64 0, .int .i64 e, .slice none 0 0, .slice Ao 0 co]) (by simp [results, Try.results28, go_sem, r0, r1, r2, r3]) rfl ⟨⟨none, 0, Ao, co, by rw [HRE.out]; rfl, ?_⟩, ?_⟩
            · rw [HRE.out]
              exact GX.of (FX.nil _ _ _) (Nat.le_refl _) (Nat.zero_le _) (GsX.nil _ _ _)
            · repeat (first | exact hb | refine b_set ?_ _ (by first | (simp; done) | (simp; omega)) _)
          · have hn0 : n ≠ 0 := by
              intro h
              apply hE
              exact List.eq_nil_of_length_eq_zero (by rw [← HNL.out]; exact h)
            have hnz : ((n : Int) == 0) = false := beq_eq_false_iff_ne.2 (by omega)
            have hnz2 : ¬ ((n : Int) = 0) := by omega
            obtain ⟨g1, g2, g3⟩ := hown.gs
            have hRe := HR.out
            rw [if_neg hE] at hRe
            have hgm : GM wr wr.heap.size (.mk 0 e [] (KS kids.length)) none 0 Ao co := GM.of (Fs.nil _ _ _) (Nat.le_refl _) g1 (g3.gs Fr.lt)
            have sf := sforce_any _ HOK.out (dimsAnd (KS kids.length)) (dimsAnd_lt _) none 0 Ao co wr hgm
            rw [← hRe] at sf
            rw [show GV (.mk 0 e [] (KS kids.length)) none 0 Ao co = .agg #[.int .i64 0, .int .i64 e, .slice none 0 0, .slice Ao (KS kids.length).length co] from rfl] at sf
            unfold GRz GV gCells at sf
            rw [← HNL.out] at sf
            have SF := Lib.hid sf
            generalize dimsAnd (KS kids.length) = acc at *
            clear hRe hown hE hlt sf hgm g1 g2 g3 hn0
            go_wp2_with fail
            refine SF.out.mono ?_
            rintro e9 w3 ⟨⟨A3, c3, A4, c4, rfl, hgx⟩, hb3⟩
            have kr3 := kr.stay hb3
            have hB3 := b_trans hb hb3
            have r0 := kr3.cell 0
            have r1 := kr3.cell 1
            have r2 := kr3.cell 2
            have r3 := kr3.cell 3
            have fr3 := kr3.frozen
            have zr3 := kr3.lt
            simp at r0 r1 r2 r3
            clear kr ko SF
            go_wp2_with fail
            refine bodyPost_ret (v := .agg #[.int .i64 R.kind, .int .i64 R.dim, .slice A3 R.nums.length c3, .slice A4 R.kids.length c4]) (by simp [results, Try.results28, go_sem, r0, r1, r2, r3]) rfl ⟨⟨A3, c3, A4, c4, rfl, ?_⟩, ?_⟩
            · exact ((((hgx.setBelow (by dsimp only; omega) _).setBelow (by dsimp only; omega) _).setBelow (by dsimp only; omega) _).setBelow (by dsimp only; omega) _).up (by omega)
            · repeat (first | exact hB3 | refine b_set ?_ _ (by first | (simp; done) | (simp; omega)) _)
    · have k0' := Blk.newAt ((w.alloc (.cells #[.int .i64 k, .int .i64 d, .slice A ns.length c, .slice A' kids.length c'] 26)).alloc (.cells #[.int .i64 0, .int .i64 0, .slice none 0 0, .slice none 0 0] 26)) 26 #[.int .i64 0, .int .i64 e, .slice none 0 0, .slice none 0 0] (n := w.heap.size + 1 + 1) (by simp)
      have k1 := (k1' k).alloc (.cells #[.int .i64 0, .int .i64 e, .slice none 0 0, .slice none 0 0] 26)
      have hb0 : Below w.heap.size w (((w.alloc (.cells #[.int .i64 k, .int .i64 d, .slice A ns.length c, .slice A' kids.length c'] 26)).alloc (.cells #[.int .i64 0, .int .i64 0, .slice none 0 0, .slice none 0 0] 26)).alloc (.cells #[.int .i64 0, .int .i64 e, .slice none 0 0, .slice none 0 0] 26)) := b_alloc (b_alloc (b_alloc (Below.refl _ _) _) _) _
      have hacc0 : dimsAnd [] = 3 := rfl
      clear k1'
      go_enter Try.func28, Try.ntmps28
      go_wp2_with (go_at_call 30; refine (HLF.out _).mono ?_; rintro e w1 ⟨rfl, rfl⟩)
      clear HLF ha
      go_loopw [5, 55] (fun acc i wr => ∃ (j n : Nat) (Ao : Option Addr) (co : Nat), j ≤ kids.length ∧ acc = .int .i64 (dimsAnd (KS j) : Nat) ∧ i = .int .i64 j ∧ OwnGs wr (w.heap.size + 3) 26 (.slice Ao n co) (KS j) ∧
        Blk wr (w.heap.size + 1 + 1) 26 #[.int .i64 0, .int .i64 e, .slice none 0 0, .slice Ao n co] ∧ Blk wr (w.heap.size + 1) 26 #[.int .i64 0, .int .i64 0, .slice none 0 0, .slice none 0 0] ∧ Below w.heap.size w wr) (fun _ i _ => kids.length - (intOf i).toNat)
      case atStart =>
        refine ⟨0, 0, none, 0, Nat.zero_le _, by rw [HK0.out]; rfl, rfl, by rw [HK0.out]; exact OwnGs.nil _ _ _, k0', k1, hb0⟩
      case round =>
        clear k0' k1 hb0
        obtain ⟨j, n, Ao, co, hj, rfl, rfl, hown, ko, kr, hb⟩ := hrel
        obtain ⟨hnl, hnc⟩ := hown.len
        have hKl := HL.out j
        have hn2 : n ≤ 2000 := by omega
        have HNL := Lib.hid hnl
        clear hnl hnc hKl
        by_cases hlt : j < kids.length
        · obtain ⟨b, off, B1, d1, B2, d2, rfl, hbl, q0', q1', q2', q3', hgm⟩ := (hgs.below hb hb.size).at hlt
          have hih := ih kids[j] (List.getElem_mem hlt) (hokk _ (List.getElem_mem hlt)) B1 d1 B2 d2
          have hba := b_alloc (Below.refl wr.heap.size wr) (.cells (gCells kids[j] B1 d1 B2 d2) 26)
          have hg7 := hgm.mov hba hba.size
          obtain ⟨em, hem, hdm⟩ := HN.out j hlt
          have hsj := HS.out j hlt
          have HSj := Lib.hid hsj
          unfold GRz at hih
          unfold GV gCells at *
          generalize newG kids[j] = m at *
          generalize kids[j] = g0 at *
          rw [hdm] at hih
          have HDM := Lib.hid hdm
          have IH := Lib.hid hih
          have hB0 := b_trans hb hba
          have ko1 := ko.alloc (.cells #[.int .i64 g0.kind, .int .i64 g0.dim, .slice B1 g0.nums.length d1, .slice B2 g0.kids.length d2] 26)
          have kr1 := kr.alloc (.cells #[.int .i64 g0.kind, .int .i64 g0.dim, .slice B1 g0.nums.length d1, .slice B2 g0.kids.length d2] 26)
          have hown1 := hown.below hba
          have hownlt : ∀ b, Value.ownBlock (.slice Ao n co) = some b → b < (wr.alloc (.cells #[.int .i64 g0.kind, .int .i64 g0.dim, .slice B1 g0.nums.length d1, .slice B2 g0.kids.length d2] 26)).heap.size := own_lt hown1
          have zwr := ko.lt
          clear hdm hsj hgm hih hown ko kr
          go_wp2_with fail
          refine (IH.out _ hg7).mono ?_
          rintro e9 w3 ⟨⟨A3, c3, A4, c4, rfl, hgx⟩, hb3⟩
          have hb4 := b_alloc hb3 (.cells #[.int .i64 m.kind, .int .i64 em, .slice A3 m.nums.length c3, .slice A4 m.kids.length c4] 26)
          have ko2 := ko1.stay hb3
          have oc0 := ko2.cell 0
          have oc3 := ko2.cell 3
          simp at oc0 oc3
          have zo2 := ko2.lt
          have zo2' : w.heap.size + 1 + 1 < w3.heap.size + 1 := by omega
          have ko3 := (ko1.stay hb3).alloc (.cells #[.int .i64 m.kind, .int .i64 em, .slice A3 m.nums.length c3, .slice A4 m.kids.length c4] 26)
          have kr3 := (kr1.stay hb3).alloc (.cells #[.int .i64 m.kind, .int .i64 em, .slice A3 m.nums.length c3, .slice A4 m.kids.length c4] 26)
          have km3 := Blk.new w3 26 #[.int .i64 m.kind, .int .i64 em, .slice A3 m.nums.length c3, .slice A4 m.kids.length c4]
          have hown3 := hown1.below hb4
          have hB3 := b_trans hB0 hb4
          have z3 : wr.heap.size + 1 ≤ w3.heap.size := by have := hb3.size; simpa using this
          have hgx4 : GX (w3.alloc (.cells #[.int .i64 m.kind, .int .i64 em, .slice A3 m.nums.length c3, .slice A4 m.kids.length c4] 26)) (Fr (wr.alloc (.cells #[.int .i64 g0.kind, .int .i64 g0.dim, .slice B1 g0.nums.length d1, .slice B2 g0.kids.length d2] 26)).heap.size (w3.alloc (.cells #[.int .i64 m.kind, .int .i64 em, .slice A3 m.nums.length c3, .slice A4 m.kids.length c4] 26))) m A3 c3 A4 c4 := hgx.stay (b_alloc (Below.refl _ _) _)
          clear hba hg7 q0' q1' q2' q3' hb3 ko1 kr1 hown1 hgx IH
          go_wp2_with fail
          by_cases hneg : K < 0
          · skip
            refine wp_region_below (by kernel_rfl) (by kernel_rfl) ?_
            repeat (go_big_quiet_step ((with_reducible exact hkd _ _)))
            refine wpQuiet_nil ?_
            intro w5 hb5
            have hkeep : keeps 0 m = true := by rw [HKK.out]; simp [hneg]
            have hs1 := HSj.out
            rw [hkeep, if_pos rfl] at hs1
            have HS1 := Lib.hid hs1
            have hda2 := dimsAnd_snoc (KS j) m
            rw [HDM.out, Int.toNat_natCast] at hda2
            have HDA := Lib.hid hda2
            have hand := and44 (dimsAnd_lt (KS j)) hem
            have hacc : dimsAnd (KS j) < 4 := dimsAnd_lt _
            generalize dimsAnd (KS j) = acc at *
            have ko5 := ko3.stay hb5
            have kr5 := kr3.stay hb5
            have km5 := km3.stay hb5
            have hB5 := b_trans hB3 hb5
            have hgx5 := hgx4.stay hb5
            obtain ⟨L, hL1, hL2, hL3⟩ := (hown3.below hb5).alloc (.cells #[.int .i64 m.kind, .int .i64 em, .slice A3 m.nums.length c3, .slice A4 m.kids.length c4] 26)
            have hLl : L.length = n := by rw [HNL.out, ← hL1, List.length_map]
            have hL2' : (w5.alloc (.cells #[.int .i64 m.kind, .int .i64 em, .slice A3 m.nums.length c3, .slice A4 m.kids.length c4] 26)).ownsRow (w.heap.size + 3) 26 4 (.slice Ao n co) n (q4s L) := by rw [hLl] at hL2; exact hL2
            have hq : GX (w5.alloc (.cells #[.int .i64 m.kind, .int .i64 em, .slice A3 m.nums.length c3, .slice A4 m.kids.length c4] 26)) (Av (w.heap.size + 3) (w5.alloc (.cells #[.int .i64 m.kind, .int .i64 em, .slice A3 m.nums.length c3, .slice A4 m.kids.length c4] 26)) (.slice Ao n co)) m A3 c3 A4 c4 := gx_fresh hownlt hgx5 (by simp; omega) _
            have o0 := ko5.cell 0
            have o3 := ko5.cell 3
            have m0 := km5.cell 0
            have m1 := km5.cell 1
            have m2 := km5.cell 2
            have m3 := km5.cell 3
            have zo := ko5.lt
            have zm := km5.lt
            simp at o0 o3 m0 m1 m2 m3
            have ko6 := ko5.alloc (.cells #[.int .i64 m.kind, .int .i64 em, .slice A3 m.nums.length c3, .slice A4 m.kids.length c4] 26)
            have kr6 := kr5.alloc (.cells #[.int .i64 m.kind, .int .i64 em, .slice A3 m.nums.length c3, .slice A4 m.kids.length c4] 26)
            have km6 := km5.alloc (.cells #[.int .i64 m.kind, .int .i64 em, .slice A3 m.nums.length c3, .slice A4 m.kids.length c4] 26)
            have hB6 := b_alloc hB5 (.cells #[.int .i64 m.kind, .int .i64 em, .slice A3 m.nums.length c3, .slice A4 m.kids.length c4] 26)
            clear hs1 hda2 hkeep ko3 kr3 km3 hB3 hgx4 ko5 kr5 km5 hB5 hown3 oc0 oc3 ko2
            go_wp2_with (at_builtin; refine wpList_app2 slGg (by rfl) _ _ (by rfl) (w.heap.size + 3) (A := Ao) (n := n) (c := co) (xs := q4s L) (by rfl) hL2' (X := some ⟨w5.heap.size, 0, none⟩) (m := 1) (cx := 1) #[.int .i64 m.kind, .int .i64 em, .slice A3 m.nums.length c3, .slice A4 m.kids.length c4].toList (by rfl) (by rfl) (cell1_blk (Blk.newAt _ _ _ rfl) 1) (fun u hu => by simp at hu; rcases hu with rfl | rfl | rfl | rfl <;> rfl) (fun h => by cases h) (by unfold maxLen; omega) (by omega) (by simp; omega) ?_; intro A5 c5 w6 hown6 hgr6 hnew6; have hown7 := OwnGs.step hL1 hL3 ⟨m, A3, c3, A4, c4⟩ (by have h9 := hown6; rw [show #[.int .i64 m.kind, .int .i64 em, .slice A3 m.nums.length c3, .slice A4 m.kids.length c4].toList = Q4.cells ⟨m, A3, c3, A4, c4⟩ by unfold Q4.cells gCells; rw [HDM.out]] at h9; exact h9) hLl.symm hgr6 hnew6 hq; have ko7 := ko6.grown hgr6 (own_far hL2' (by omega)); have kr7 := kr6.grown hgr6 (own_far hL2' (by omega)); have km7 := km6.grown hgr6 (own_ne hownlt (by simp; omega)); have hB7 := b_grown hB6 hgr6 hB6.size (fun b hb => by have := (hL2'.lt b hb).1; omega); have o7 := ko7.cell 3; have m7 := km7.cell 1; have fz7 := ko7.frozen; have zo7 := ko7.lt; have zm7 := km7.lt; simp at o7 m7)
            go_roundw
            case rel =>
              refine ⟨j + 1, n + 1, A5, c5, by omega, by rw [HS1.out, HDA.out], by go_num, ?_, (ko7.set_ _ _).cast (by simp), kr7.far (by simp) _, b_set hB7 _ (by dsimp only; omega) _⟩
              rw [HS1.out]
              exact hown7.set (by dsimp only; omega) _
            case measure => simp [intOf]; omega
          · by_cases hmk : K = m.kind
            · subst hmk
              refine wp_region_below (by kernel_rfl) (by kernel_rfl) ?_
              repeat (go_big_quiet_step ((with_reducible exact hkd _ _)))
              refine wpQuiet_nil ?_
              intro w5 hb5
              have hkeep : keeps 0 m = true := by rw [HKK.out]; simp []
              have hs1 := HSj.out
              rw [hkeep, if_pos rfl] at hs1
              have HS1 := Lib.hid hs1
              have hda2 := dimsAnd_snoc (KS j) m
              rw [HDM.out, Int.toNat_natCast] at hda2
              have HDA := Lib.hid hda2
              have hand := and44 (dimsAnd_lt (KS j)) hem
              have hacc : dimsAnd (KS j) < 4 := dimsAnd_lt _
              generalize dimsAnd (KS j) = acc at *
              have ko5 := ko3.stay hb5
              have kr5 := kr3.stay hb5
              have km5 := km3.stay hb5
              have hB5 := b_trans hB3 hb5
              have hgx5 := hgx4.stay hb5
              obtain ⟨L, hL1, hL2, hL3⟩ := (hown3.below hb5).alloc (.cells #[.int .i64 m.kind, .int .i64 em, .slice A3 m.nums.length c3, .slice A4 m.kids.length c4] 26)
              have hLl : L.length = n := by rw [HNL.out, ← hL1, List.length_map]
              have hL2' : (w5.alloc (.cells #[.int .i64 m.kind, .int .i64 em, .slice A3 m.nums.length c3, .slice A4 m.kids.length c4] 26)).ownsRow (w.heap.size + 3) 26 4 (.slice Ao n co) n (q4s L) := by rw [hLl] at hL2; exact hL2
              have hq : GX (w5.alloc (.cells #[.int .i64 m.kind, .int .i64 em, .slice A3 m.nums.length c3, .slice A4 m.kids.length c4] 26)) (Av (w.heap.size + 3) (w5.alloc (.cells #[.int .i64 m.kind, .int .i64 em, .slice A3 m.nums.length c3, .slice A4 m.kids.length c4] 26)) (.slice Ao n co)) m A3 c3 A4 c4 := gx_fresh hownlt hgx5 (by simp; omega) _
              have o0 := ko5.cell 0
              have o3 := ko5.cell 3
              have m0 := km5.cell 0
              have m1 := km5.cell 1
              have m2 := km5.cell 2
              have m3 := km5.cell 3
              have zo := ko5.lt
              have zm := km5.lt
              simp at o0 o3 m0 m1 m2 m3
              have ko6 := ko5.alloc (.cells #[.int .i64 m.kind, .int .i64 em, .slice A3 m.nums.length c3, .slice A4 m.kids.length c4] 26)
              have kr6 := kr5.alloc (.cells #[.int .i64 m.kind, .int .i64 em, .slice A3 m.nums.length c3, .slice A4 m.kids.length c4] 26)
              have km6 := km5.alloc (.cells #[.int .i64 m.kind, .int .i64 em, .slice A3 m.nums.length c3, .slice A4 m.kids.length c4] 26)
              have hB6 := b_alloc hB5 (.cells #[.int .i64 m.kind, .int .i64 em, .slice A3 m.nums.length c3, .slice A4 m.kids.length c4] 26)
              clear hs1 hda2 hkeep ko3 kr3 km3 hB3 hgx4 ko5 kr5 km5 hB5 hown3 oc0 oc3 ko2
              go_wp2_with (at_builtin; refine wpList_app2 slGg (by rfl) _ _ (by rfl) (w.heap.size + 3) (A := Ao) (n := n) (c := co) (xs := q4s L) (by rfl) hL2' (X := some ⟨w5.heap.size, 0, none⟩) (m := 1) (cx := 1) #[.int .i64 m.kind, .int .i64 em, .slice A3 m.nums.length c3, .slice A4 m.kids.length c4].toList (by rfl) (by rfl) (cell1_blk (Blk.newAt _ _ _ rfl) 1) (fun u hu => by simp at hu; rcases hu with rfl | rfl | rfl | rfl <;> rfl) (fun h => by cases h) (by unfold maxLen; omega) (by omega) (by simp; omega) ?_; intro A5 c5 w6 hown6 hgr6 hnew6; have hown7 := OwnGs.step hL1 hL3 ⟨m, A3, c3, A4, c4⟩ (by have h9 := hown6; rw [show #[.int .i64 m.kind, .int .i64 em, .slice A3 m.nums.length c3, .slice A4 m.kids.length c4].toList = Q4.cells ⟨m, A3, c3, A4, c4⟩ by unfold Q4.cells gCells; rw [HDM.out]] at h9; exact h9) hLl.symm hgr6 hnew6 hq; have ko7 := ko6.grown hgr6 (own_far hL2' (by omega)); have kr7 := kr6.grown hgr6 (own_far hL2' (by omega)); have km7 := km6.grown hgr6 (own_ne hownlt (by simp; omega)); have hB7 := b_grown hB6 hgr6 hB6.size (fun b hb => by have := (hL2'.lt b hb).1; omega); have o7 := ko7.cell 3; have m7 := km7.cell 1; have fz7 := ko7.frozen; have zo7 := ko7.lt; have zm7 := km7.lt; simp at o7 m7)
              go_roundw
              case rel =>
                refine ⟨j + 1, n + 1, A5, c5, by omega, by rw [HS1.out, HDA.out], by go_num, ?_, (ko7.set_ _ _).cast (by simp), kr7.far (by simp) _, b_set hB7 _ (by dsimp only; omega) _⟩
                rw [HS1.out]
                exact hown7.set (by dsimp only; omega) _
              case measure => simp [intOf]; omega
            · have hmb : (K == m.kind) = false := beq_eq_false_iff_ne.2 hmk
              refine wp_region_below (by kernel_rfl) (by kernel_rfl) ?_
              repeat (go_big_quiet_step ((with_reducible exact hkd _ _)))
              refine wpQuiet_nil ?_
              intro w5 hb5
              have hkeep : keeps 0 m = false := by rw [HKK.out]; simp [hmk]; omega
              have hs1 := HSj.out
              rw [hkeep, if_neg (by decide)] at hs1
              have HS1 := Lib.hid hs1
              have ko5 := ko3.stay hb5
              have kr5 := kr3.stay hb5
              have hB5 := b_trans hB3 hb5
              have hown5 := hown3.below hb5
              clear hs1 hkeep ko3 kr3 km3 hB3 hgx4 hown3 oc0 oc3 ko2
              go_wp2_with fail
              go_roundw
              case rel => exact ⟨j + 1, n, Ao, co, by omega, by rw [HS1.out], by go_num, by rw [HS1.out]; exact hown5, ko5, kr5, hB5⟩
              case measure => simp [intOf]; omega
        · obtain rfl : j = kids.length := by omega
          have r0 := kr.cell 0
          have r1 := kr.cell 1
          have r2 := kr.cell 2
          have r3 := kr.cell 3
          have o0 := ko.cell 0
          have o1 := ko.cell 1
          have o2 := ko.cell 2
          have o3 := ko.cell 3
          have fr := kr.frozen
          have zo := ko.lt
          have zr := kr.lt
          simp at r0 r1 r2 r3 o0 o1 o2 o3
          by_cases hE : KS kids.length = []
          · have hn0 : n = 0 := by rw [HNL.out, hE]; rfl
            subst hn0
            have hRe := HR.out
            rw [if_pos hE] at hRe
            have HRE := Lib.hid hRe
            clear hRe hown hE hlt
            go_wp2_with fail
            refine bodyPost_ret (v := .agg #[.int .i64 0, .int .i64 e, .slice none 0 0, .slice Ao 0 co]) (by simp [results, Try.results28, go_sem, r0, r1, r2, r3]) rfl ⟨⟨none, 0, Ao, co, by rw [HRE.out]; rfl, ?_⟩, ?_⟩
            · rw [HRE.out]
              exact GX.of (FX.nil _ _ _) (Nat.le_refl _) (Nat.zero_le _) (GsX.nil _ _ _)
            · repeat (first | exact hb | refine b_set ?_ _ (by first | (simp; done) | (simp; omega)) _)
          · have hn0 : n ≠ 0 := by
              intro h
              apply hE
              exact List.eq_nil_of_length_eq_zero (by rw [← HNL.out]; exact h)
            have hnz : ((n : Int) == 0) = false := beq_eq_false_iff_ne.2 (by omega)
            have hnz2 : ¬ ((n : Int) = 0) := by omega
            obtain ⟨g1, g2, g3⟩ := hown.gs
            have hRe := HR.out
            rw [if_neg hE] at hRe
            have hgm : GM wr wr.heap.size (.mk 0 e [] (KS kids.length)) none 0 Ao co := GM.of (Fs.nil _ _ _) (Nat.le_refl _) g1 (g3.gs Fr.lt)
            have sf := sforce_any _ HOK.out (dimsAnd (KS kids.length)) (dimsAnd_lt _) none 0 Ao co wr hgm
            rw [← hRe] at sf
            rw [show GV (.mk 0 e [] (KS kids.length)) none 0 Ao co = .agg #[.int .i64 0, .int .i64 e, .slice none 0 0, .slice Ao (KS kids.length).length co] from rfl] at sf
            unfold GRz GV gCells at sf
            rw [← HNL.out] at sf
            have SF := Lib.hid sf
            generalize dimsAnd (KS kids.length) = acc at *
            clear hRe hown hE hlt sf hgm g1 g2 g3 hn0
            go_wp2_with fail
            refine SF.out.mono ?_
            rintro e9 w3 ⟨⟨A3, c3, A4, c4, rfl, hgx⟩, hb3⟩
            have kr3 := kr.stay hb3
            have hB3 := b_trans hb hb3
            have r0 := kr3.cell 0
            have r1 := kr3.cell 1
            have r2 := kr3.cell 2
            have r3 := kr3.cell 3
            have fr3 := kr3.frozen
            have zr3 := kr3.lt
            simp at r0 r1 r2 r3
            clear kr ko SF
            go_wp2_with fail
            refine bodyPost_ret (v := .agg #[.int .i64 R.kind, .int .i64 R.dim, .slice A3 R.nums.length c3, .slice A4 R.kids.length c4]) (by simp [results, Try.results28, go_sem, r0, r1, r2, r3]) rfl ⟨⟨A3, c3, A4, c4, rfl, ?_⟩, ?_⟩
            · exact ((((hgx.setBelow (by dsimp only; omega) _).setBelow (by dsimp only; omega) _).setBelow (by dsimp only; omega) _).setBelow (by dsimp only; omega) _).up (by omega)
            · repeat (first | exact hB3 | refine b_set ?_ _ (by first | (simp; done) | (simp; omega)) _)
end Geo
end Go.Proofs.Ytllomldpbkeioaa
