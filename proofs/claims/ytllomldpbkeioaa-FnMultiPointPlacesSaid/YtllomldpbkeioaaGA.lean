/- Walks: all numbers of a geometry, as the reference has them. -/
import Derived.Test.YtllomldpbkeioaaGN2
namespace Go.Proofs.Ytllomldpbkeioaa
open Go.RowKit Go.Sort
namespace Geo
set_option linter.unusedSimpArgs false
mutual
def allN : G → List Nat
  | .mk _ _ ns kids => ns ++ allNL kids
def allNL : List G → List Nat
  | [] => []
  | g :: l => allN g ++ allNL l
end
theorem allNL_eq : ∀ l, allNL l = l.flatMap allN
  | [] => by unfold allNL; rfl
  | g :: l => by unfold allNL; rw [allNL_eq l]; rfl
theorem allN_eq (k d : Int) (ns : List Nat) (kids : List G) : allN (.mk k d ns kids) = ns ++ kids.flatMap allN := by
  unfold allN; rw [allNL_eq]
theorem flat_mem_le {α : Type} (f : α → List Nat) : ∀ {l : List α} {x : α}, x ∈ l → (f x).length ≤ (l.flatMap f).length
  | y :: l, x, h => by
    rw [List.flatMap_cons, List.length_append]
    rcases List.mem_cons.1 h with rfl | h
    · omega
    · have := flat_mem_le f h; omega
theorem flat_take_le {α : Type} (f : α → List Nat) (l : List α) (k : Nat) : ((l.take k).flatMap f).length ≤ (l.flatMap f).length := by
  conv => rhs; rw [← List.take_append_drop k l, List.flatMap_append, List.length_append]
  omega
theorem flat_map_le {α : Type} (f g : α → List Nat) : ∀ (l : List α), (∀ x ∈ l, (f x).length ≤ (g x).length) → (l.flatMap f).length ≤ (l.flatMap g).length
  | [], _ => Nat.le_refl _
  | y :: l, h => by
    rw [List.flatMap_cons, List.flatMap_cons, List.length_append, List.length_append]
    have h1 := h y (by simp)
    have h2 := flat_map_le f g l fun x hx => h x (by simp [hx])
    omega
theorem force_allN {d e : Nat} (hd : d < 4) (he : e < 4) (h : d &&& e = d) (g : G) : allG (oneD e) g → (allN (forceG d g)).length ≤ (allN g).length := by
  induction g using G.ind with
  | _ k f ns kids ih =>
    rw [allG_iff, forceG_eq, allN_eq, allN_eq]
    rintro ⟨⟨rfl, h1, h2⟩, h3⟩
    rw [List.length_append, List.length_append, Int.toNat_natCast]
    have q1 := force_len hd he h ns
    have q2 : ((kids.map (forceG d)).flatMap allN).length ≤ (kids.flatMap allN).length := by
      rw [List.flatMap_map]
      exact flat_map_le _ _ kids fun x hx => ih x hx (h3 x hx)
    omega
theorem filter_flat_le (p : G → Bool) (f : G → List Nat) : ∀ (l : List G), ((l.filter p).flatMap f).length ≤ (l.flatMap f).length
  | [] => Nat.le_refl _
  | y :: l => by
    have := filter_flat_le p f l
    rw [List.filter_cons, List.flatMap_cons, List.length_append]
    split
    · rw [List.flatMap_cons, List.length_append]; omega
    · omega
theorem new_allN (g : G) : allG smallN g → (allN (newG g)).length ≤ (allN g).length := by
  induction g using G.ind with
  | _ k d ns kids ih =>
    rw [allG_iff, newG_eq, allN_eq]
    rintro ⟨⟨h1, h2⟩, h3⟩
    rw [List.length_append]
    unfold newTop
    split
    · rw [allN_eq, List.length_append, List.length_take]; simp; omega
    · split
      · rw [allN_eq, List.length_append, whole_length]; have := div_mul_le' ns.length (wd (dim3 d)); simp; omega
      · split
        · rw [allN_eq]; simp
        · rw [forceG_eq, allN_eq, List.length_append, List.flatMap_map]
          have q0 : (numsF (dimsAnd ((kids.map newG).filter (keeps (kindN k)))) (placesF (dim3 d : Int).toNat [])).length = 0 := by simp [placesF, placesN, numsF]
          have q1 : (((kids.map newG).filter (keeps (kindN k))).flatMap fun x => allN (forceG (dimsAnd ((kids.map newG).filter (keeps (kindN k)))) x)).length ≤ (((kids.map newG).filter (keeps (kindN k))).flatMap allN).length := by
            refine flat_map_le _ _ _ fun y hy => ?_
            obtain ⟨z, hz, rfl⟩ := List.mem_map.1 (List.mem_filter.1 hy).1
            obtain ⟨e, he, hde, hall⟩ := new_oneD z (h3 z hz)
            have hm := dimsAnd_mem hy
            rw [hde, Int.toNat_natCast] at hm
            exact force_allN (dimsAnd_lt _) he hm _ hall
          have q2 := filter_flat_le (keeps (kindN k)) allN (kids.map newG)
          have q3 : ((kids.map newG).flatMap allN).length ≤ (kids.flatMap allN).length := by
            rw [List.flatMap_map]
            exact flat_map_le _ _ kids fun x hx => ih x hx (h3 x hx)
          omega
theorem own_empty {w : World} {B g : Nat} {e : TypeId} {size : Nat} (h : Blk w g e #[]) (hB : B ≤ g) : w.ownsRow B e size (.slice (some ⟨g, 0, none⟩) 0 0) 0 [] :=
  ⟨by simp, .inr ⟨g, 0, #[], rfl, hB, h, Nat.le_refl _, by simp, by simp, by simp⟩⟩
theorem oneD_small {e : Nat} (g : G) : allG (oneD e) g → allG smallN g := by
  induction g using G.ind with
  | _ k d ns kids ih =>
    rw [allG_iff, allG_iff]
    rintro ⟨⟨_, h1, h2⟩, h3⟩
    exact ⟨⟨h1, h2⟩, fun x hx => ih x hx (h3 x hx)⟩
def ANc (g : G) : Prop := allG smallN g → (allN g).length ≤ 100000 → ∀ (A : Option Addr) (c : Nat) (A' : Option Addr) (c' : Nat) (w : World), GM w w.heap.size g A c A' c' →
  Calls Try.prog 50 #[GV g A c A' c'] w fun r w' => FRz w.heap.size (allN g) r w' ∧ Below w.heap.size w w'
set_option maxHeartbeats 8000000 in
theorem alln_any (g : G) : ANc g := by
  induction g using G.ind with
  | _ k d ns kids ih =>
    intro hsm hlen A c A' c' w hg
    rw [allG_iff] at hsm
    obtain ⟨⟨_, hk2⟩, hsk⟩ := hsm
    obtain ⟨hn, hc, _, hgs⟩ := hg.parts
    simp only [G.nums, G.kids] at hn hc hgs
    rw [allN_eq] at hlen ⊢
    have hlen0 := hlen
    rw [List.length_append] at hlen
    obtain ⟨F, hF⟩ : ∃ F : Nat → List Nat, F = fun j => (kids.take j).flatMap allN := ⟨_, rfl⟩
    have hF0 : F 0 = [] := by rw [hF]; rfl
    have hFn : kids.flatMap allN = F kids.length := by rw [hF]; simp only [List.take_length]
    have hFl : ∀ j, (F j).length ≤ 100000 := fun j => by rw [hF]; have := flat_take_le allN kids j; show ((kids.take j).flatMap allN).length ≤ _; omega
    have hFs : ∀ j (h : j < kids.length), F (j + 1) = F j ++ allN kids[j] := fun j h => by
      rw [hF]
      show (kids.take (j + 1)).flatMap allN = _
      rw [List.take_succ_eq_append_getElem h, List.flatMap_append]; simp
    have hkl : ∀ j (h : j < kids.length), (allN kids[j]).length ≤ 100000 := fun j h => by
      have := flat_mem_le allN (List.getElem_mem h); omega
    rw [hFn]
    rw [show GV (.mk k d ns kids) A c A' c' = .agg #[.int .i64 k, .int .i64 d, .slice A ns.length c, .slice A' kids.length c'] from rfl]
    have HF0 := Lib.hid hF0
    have HFL := Lib.hid hFl
    have HFS := Lib.hid hFs
    have HKL := Lib.hid hkl
    have hnl : ns.length ≤ 100000 := by omega
    clear hF hF0 hFn hFl hFs hkl hlen hlen0 hg
    unfold FRz
    have hb0 := b_alloc (b_alloc (Below.refl w.heap.size w) (.cells #[.int .i64 k, .int .i64 d, .slice A ns.length c, .slice A' kids.length c'] 26)) (.cells #[] 66)
    have kb := Blk.newAt (w.alloc (.cells #[.int .i64 k, .int .i64 d, .slice A ns.length c, .slice A' kids.length c'] 26)) 66 #[] (n := w.heap.size + 1) (by simp)
    have k0 := (Blk.newAt w 26 #[.int .i64 k, .int .i64 d, .slice A ns.length c, .slice A' kids.length c'] rfl).alloc (.cells #[] 66)
    have how := own_empty (B := w.heap.size + 1) (size := 1) kb (Nat.le_refl _)
    have hfs := fs_cell1 (hn.below hb0 hb0.size) ns.length (Nat.le_refl _)
    rw [List.take_length] at hfs
    have hnone : A = none → ns.length = 0 := fun h => by
      by_cases h0 : ns = []
      · rw [h0]; rfl
      · obtain ⟨b, off, e1, _⟩ := hn h0
        rw [h] at e1; cases e1
    go_enter Try.func50, Try.ntmps50
    go_wp2_with (at_builtin; refine wpList_app2 slF (by rfl) _ _ (by rfl) (w.heap.size + 1) (A := some ⟨w.heap.size + 1, 0, none⟩) (n := 0) (c := 0) (xs := []) (by rfl) how (X := A) (m := ns.length) (cx := c) (fl ns) (by rfl) (by rw [fl_length, Nat.mul_one]) hfs (fl_one _) hnone (by unfold maxLen; omega) (by omega) (by simp) ?_; intro A5 c5 w6 hown6 hgr6 hnew6; have k6 := k0.grown hgr6 (own_far how (by omega)); have hB6 := b_grown hb0 hgr6 hb0.size (fun b hb => by simp [Value.ownBlock] at hb; omega); have p3 := k6.cell 3; have z6 := hgr6.size; simp at p3 z6)
    clear how kb hfs hgr6 hnew6 k0 hb0 hnone
    rw [Nat.zero_add, List.nil_append] at hown6
    go_loopw [3, 13] (fun lv i wr => ∃ (j n : Nat) (Ao : Option Addr) (co : Nat), j ≤ kids.length ∧ lv = .slice Ao n co ∧ i = .int .i64 j ∧ wr.ownsRow (w.heap.size + 1) 66 1 (.slice Ao n co) n (fl (ns ++ F j)) ∧ Below w.heap.size w wr) (fun _ i _ => kids.length - (intOf i).toNat)
    case atStart => exact ⟨0, ns.length, A5, c5, Nat.zero_le _, rfl, rfl, by rw [HF0.out, List.append_nil]; exact hown6, hB6⟩
    case round =>
      clear hown6 hB6 p3 k6
      obtain ⟨j, n, Ao, co, hj, rfl, rfl, hown, hb⟩ := hrel
      have hnn : n ≤ 200000 := by
        have h1 := hown.1
        rw [fl_length, List.length_append] at h1
        have h2 := HFL.out j
        omega
      by_cases hlt : j < kids.length
      · obtain ⟨b, off, B1, d1, B2, d2, rfl, hbl, q0, q1, q2, q3, hgm⟩ := (hgs.below hb hb.size).at hlt
        have hba := b_alloc (Below.refl wr.heap.size wr) (.cells (gCells kids[j] B1 d1 B2 d2) 26)
        have hih := ih kids[j] (List.getElem_mem hlt) (hsk _ (List.getElem_mem hlt)) (HKL.out j hlt) B1 d1 B2 d2 _ (hgm.mov hba hba.size)
        have hfs := HFS.out j hlt
        have hkl := HKL.out j hlt
        have HFS1 := Lib.hid hfs
        unfold FRz at hih
        unfold GV gCells at *
        generalize allN kids[j] = ak at *
        generalize kids[j] = g0 at *
        have IH := Lib.hid hih
        have hown1 := own_below hown hba
        have hB1 := b_trans hb hba
        have zwr := hb.size
        clear hih hfs hgm hown
        go_wp2_with fail
        refine IH.out.mono ?_
        rintro e9 w3 ⟨⟨A3, c3, rfl, hc3, hfx⟩, hb3⟩
        have hown3 := own_below hown1 hb3
        have hB3 := b_trans hB1 hb3
        have hsr := fs_cell1 (hfx.fs Fr.lt) ak.length (Nat.le_refl _)
        rw [List.take_length] at hsr
        have hno : A3 = none → ak.length = 0 := fun h => by
          by_cases h0 : ak = []
          · rw [h0]; rfl
          · obtain ⟨b, off, e1, _⟩ := hfx h0
            rw [h] at e1; cases e1
        have z3 := hB3.size
        have z4 : w.heap.size + 1 ≤ w3.heap.size := by have := hb3.size; simp at this; omega
        clear IH hba hown1 hB1 hb3 hfx
        go_wp2_with (at_builtin; refine wpList_app2 slF (by rfl) _ _ (by rfl) (w.heap.size + 1) (A := Ao) (n := n) (c := co) (xs := fl (ns ++ F j)) (by rfl) hown3 (X := A3) (m := ak.length) (cx := c3) (fl ak) (by rfl) (by rw [fl_length, Nat.mul_one]) hsr (fl_one _) hno (by unfold maxLen; omega) (by omega) z4 ?_; intro A5 c5 w6 hown6 hgr6 hnew6)
        go_roundw
        case rel =>
          refine ⟨j + 1, n + ak.length, A5, c5, by omega, rfl, by go_num, ?_, b_grown hB3 hgr6 hB3.size (fun b hb => by have := (hown3.lt b hb).1; omega)⟩
          rw [HFS1.out, ← List.append_assoc, fl_append]
          exact hown6
        case measure => simp [intOf]; omega
      · obtain rfl : j = kids.length := by omega
        obtain ⟨f1, f2, _⟩ := fs_of_own hown
        have f3 := fx_of_own hown
        have F2 := Lib.hid f2
        clear f2 hlt hown
        go_wp2_with fail
        go_ret
        refine ⟨⟨Ao, co, ?_, f1, f3.up (by omega)⟩, hb⟩
        rw [← F2.out]; rfl
set_option maxHeartbeats 2000000 in
theorem dumpc_any (g : G) (hsm : allG smallN g) (hlen : (allN g).length ≤ 100000) (A : Option Addr) (c : Nat) (A' : Option Addr) (c' : Nat) (w : World) (hg : GM w w.heap.size g A c A' c') :
    Calls Try.prog 27 #[GV g A c A' c'] w fun r w' => GRz w.heap.size (.mk 2 g.dim (allN g) []) r w' ∧ Below w.heap.size w w' := by
  have s1 := fun (w' : World) (hb : Below w.heap.size w w') => alln_any g hsm hlen A c A' c' w' (hg.mov hb hb.size)
  have hb0 := b_alloc (b_alloc (Below.refl w.heap.size w) (.cells (gCells g A c A' c') 26)) (.cells #[.int .i64 0, .int .i64 0, .slice none 0 0, .slice none 0 0] 26)
  have k0 := (Blk.newAt w 26 (gCells g A c A' c') rfl).alloc (.cells #[.int .i64 0, .int .i64 0, .slice none 0 0, .slice none 0 0] 26)
  have k1 := Blk.newAt (w.alloc (.cells (gCells g A c A' c') 26)) 26 #[.int .i64 0, .int .i64 0, .slice none 0 0, .slice none 0 0] (n := w.heap.size + 1) (by simp)
  clear hg hsm
  rw [show GV g A c A' c' = .agg #[.int .i64 g.kind, .int .i64 g.dim, .slice A g.nums.length c, .slice A' g.kids.length c'] from rfl] at *
  generalize allN g = R at *
  unfold FRz at s1
  unfold GRz GV gCells at *
  simp only [show ∀ (x : Int) (y : List Nat), (G.mk 2 x y []).kind = 2 from fun _ _ => rfl, show ∀ (x : Int) (y : List Nat), (G.mk 2 x y []).dim = x from fun _ _ => rfl, show ∀ (x : Int) (y : List Nat), (G.mk 2 x y []).nums = y from fun _ _ => rfl, show ∀ (x : Int) (y : List Nat), (G.mk 2 x y []).kids = [] from fun _ _ => rfl, List.length_nil]
  have S1 := Lib.hid s1
  clear s1
  have hSt := And.intro hb0 (And.intro k0 trivial)
  have cD0 := cell_of (i := 0) (v := .int .i64 g.kind) k0.drew rfl
  have cD1 := cell_of (i := 1) (v := .int .i64 g.dim) k0.drew rfl
  have cD2 := cell_of (i := 2) (v := .slice A g.nums.length c) k0.drew rfl
  have cD3 := cell_of (i := 3) (v := .slice A' g.kids.length c') k0.drew rfl
  go_enter Try.func27, Try.ntmps27
  go_wp2_with fail
  go_region_held3 (fun w' => Below w.heap.size w w' ∧ Blk w' (w.heap.size) 26 #[.int .i64 g.kind, .int .i64 g.dim, .slice A g.nums.length c, .slice A' g.kids.length c'] ∧ w'.cell? ⟨w.heap.size, 0, none⟩ = some (.int .i64 g.kind) ∧ w'.cell? ⟨w.heap.size, 1, none⟩ = some (.int .i64 g.dim) ∧ w'.cell? ⟨w.heap.size, 2, none⟩ = some (.slice A g.nums.length c) ∧ w'.cell? ⟨w.heap.size, 3, none⟩ = some (.slice A' g.kids.length c'))
    (first | ((obtain ⟨hB', hK0', _⟩ := id (show Below w.heap.size w _ ∧ Blk _ (w.heap.size) _ _ ∧ _ by assumption)); ((repeat' apply And.intro) <;> first | with_reducible assumption | with_reducible exact b_drew (by with_reducible assumption) | with_reducible exact b_alloc (by with_reducible assumption) _ | with_reducible exact b_set (by with_reducible assumption) _ (by first | (simp; done) | (simp; omega)) _ | with_reducible exact b_trans (by with_reducible assumption) (by with_reducible assumption) | with_reducible exact Blk.drew (by with_reducible assumption) | with_reducible exact Blk.alloc (by with_reducible assumption) _ | with_reducible exact Blk.far (by with_reducible assumption) (by first | (simp; done) | (simp; omega)) _ | with_reducible exact Blk.stay (by with_reducible assumption) (by with_reducible assumption) | exact cell_of (by (first | with_reducible assumption | with_reducible exact Blk.drew (by with_reducible assumption) | with_reducible exact Blk.alloc (by with_reducible assumption) _ | with_reducible exact Blk.far (by with_reducible assumption) (by first | (simp; done) | (simp; omega)) _ | with_reducible exact Blk.stay (by with_reducible assumption) (by with_reducible assumption) | fail)) (by rfl) | fail))) (first | (go_at_call 50; (obtain ⟨hB', hK0', _⟩ := id (show Below w.heap.size w _ ∧ Blk _ (w.heap.size) _ _ ∧ _ by assumption)); refine (S1.out _ (by assumption)).mono ?_; rintro e w3 ⟨⟨A3, c3, rfl, hc3, hfx⟩, hb3⟩; have kr3 := k1.drew.stay hb3; have hB3 := b_trans hB' hb3; have kt3 := hK0'.stay hb3; have fz3 := kr3.frozen; have r0 := kr3.cell 0; have r1 := kr3.cell 1; have r2 := kr3.cell 2; have r3 := kr3.cell 3; simp at r0 r1 r2 r3; have z3 := kr3.lt; have cE0 := cell_of (i := 0) (v := .int .i64 g.kind) kt3 rfl; have cE1 := cell_of (i := 1) (v := .int .i64 g.dim) kt3 rfl; have cE2 := cell_of (i := 2) (v := .slice A g.nums.length c) kt3 rfl; have cE3 := cell_of (i := 3) (v := .slice A' g.kids.length c') kt3 rfl; have kt4 := (((kt3.far (p := ⟨w.heap.size + 1, 0, none⟩) (by simp) (.int .i64 2)).far (p := ⟨w.heap.size + 1, 1, none⟩) (by simp) (.int .i64 g.dim)).far (p := ⟨w.heap.size + 1, 2, none⟩) (by simp) (.slice A3 R.length c3)).far (p := ⟨w.heap.size + 1, 3, none⟩) (by simp) (.slice none 0 0); have hB4 := b_set (b_set (b_set (b_set hB3 ⟨w.heap.size + 1, 0, none⟩ (by simp) (.int .i64 2)) ⟨w.heap.size + 1, 1, none⟩ (by simp) (.int .i64 g.dim)) ⟨w.heap.size + 1, 2, none⟩ (by simp) (.slice A3 R.length c3)) ⟨w.heap.size + 1, 3, none⟩ (by simp) (.slice none 0 0); have cF0 := cell_of (i := 0) (v := .int .i64 g.kind) kt4 rfl; have cF1 := cell_of (i := 1) (v := .int .i64 g.dim) kt4 rfl; have cF2 := cell_of (i := 2) (v := .slice A g.nums.length c) kt4 rfl; have cF3 := cell_of (i := 3) (v := .slice A' g.kids.length c') kt4 rfl) | fail)
  go_wp2_with fail
  refine bodyPost_ret (v := .agg #[.int .i64 2, .int .i64 g.dim, .slice A3 R.length c3, .slice none 0 0]) (by simp [results, Try.results27, go_sem, r0, r1, r2, r3]) rfl ⟨⟨A3, c3, none, 0, rfl, ?_⟩, hB4⟩
  refine GX.of (?_ : FX _ _ _ _) hc3 (Nat.le_refl _) (GsX.nil _ _ _)
  have hfy := hfx.up (lo' := w.heap.size + 2) (by simp)
  exact ((((hfy.setBelow (by dsimp only; omega) _).setBelow (by dsimp only; omega) _).setBelow (by dsimp only; omega) _).setBelow (by dsimp only; omega) _).up (by omega)
end Geo
end Go.Proofs.Ytllomldpbkeioaa
