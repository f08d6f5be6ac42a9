/- Walks: a geometry under another type of coordinates, as the reference has it. -/
import Derived.Test.YtllomldpbkeioaaG4
import Derived.Test.YtllomldpbkeioaaApp2
import Derived.Test.YtllomldpbkeioaaFirst
import Derived.Deep.RegionHeld3
namespace Go.Proofs.Ytllomldpbkeioaa
open Go.RowKit Go.Sort
namespace Geo
set_option linter.unusedSimpArgs false
/-! ### of each part -/
mutual
def allG (p : Int → Int → List Nat → List G → Prop) : G → Prop
  | .mk k d ns kids => p k d ns kids ∧ allL p kids
def allL (p : Int → Int → List Nat → List G → Prop) : List G → Prop
  | [] => True
  | g :: l => allG p g ∧ allL p l
end
theorem allL_iff (p : Int → Int → List Nat → List G → Prop) : ∀ l, allL p l ↔ ∀ g ∈ l, allG p g
  | [] => by unfold allL; simp
  | g :: l => by unfold allL; rw [allL_iff p l]; simp
theorem allG_iff (p : Int → Int → List Nat → List G → Prop) (k d : Int) (ns : List Nat) (kids : List G) : allG p (.mk k d ns kids) ↔ p k d ns kids ∧ ∀ g ∈ kids, allG p g := by
  simp only [allG, allL_iff]
mutual
def forceG (d : Nat) : G → G
  | .mk k e ns kids => .mk k d (numsF d (placesF e.toNat ns)) (forceKs d kids)
def forceKs (d : Nat) : List G → List G
  | [] => []
  | g :: l => forceG d g :: forceKs d l
end
theorem forceKs_eq (d : Nat) : ∀ l, forceKs d l = l.map (forceG d)
  | [] => by unfold forceKs; rfl
  | g :: l => by unfold forceKs; rw [forceKs_eq d l]; rfl
theorem forceG_eq (d : Nat) (k e : Int) (ns : List Nat) (kids : List G) : forceG d (.mk k e ns kids) = .mk k d (numsF d (placesF e.toNat ns)) (kids.map (forceG d)) := by
  unfold forceG; rw [forceKs_eq]
def okF (_ d : Int) (ns : List Nat) (kids : List G) : Prop := 0 ≤ d ∧ d ≤ 3 ∧ ns.length ≤ 2000 ∧ kids.length ≤ 2000
theorem slGg : SL Try.prog 22 26 (.agg #[.int .i64 0, .int .i64 0, .slice none 0 0, .slice none 0 0]) 4 64 := ⟨Try.underlying22, info_parts (by kernel_rfl), rfl, by decide⟩
theorem placesF_le (d : Nat) (ns : List Nat) : (placesF d ns).length ≤ ns.length := by
  unfold placesF; rw [placesN_length]; exact Nat.div_le_self _ _
theorem q4_one (q : Q4) : ∀ u ∈ q.cells, u.oneCell' = true := by
  intro u hu
  simp [Q4.cells, gCells] at hu
  rcases hu with rfl | rfl | rfl | rfl <;> rfl
theorem own_lt {w : World} {B : Nat} {e : TypeId} {v : Value} {gs : List G} (h : OwnGs w B e v gs) : ∀ b, v.ownBlock = some b → b < w.heap.size := fun b hb => by
  obtain ⟨L, _, h2, _⟩ := h
  exact (h2.lt b hb).2
theorem own_ne {v : Value} {m g : Nat} (h : ∀ b, v.ownBlock = some b → b < m) (hg : m ≤ g) : some g ≠ v.ownBlock := fun e => by
  have := h g e.symm; omega
theorem hav_stay {w w' : World} {B : Nat} {v : Value} {A : Option Addr} {ns : List Nat} (h : FX w (Av B w v) A ns) (hb : Below w.heap.size w w') : FX w' (Av B w' v) A ns :=
  h.mov (fun _ h => ⟨h.1, Nat.lt_of_lt_of_le h.2.1 hb.size, h.2.2⟩) fun b h => hb.block b h.2.1
theorem hav_set {w : World} {B : Nat} {v : Value} {A : Option Addr} {ns : List Nat} (h : FX w (Av B w v) A ns) {p : Addr} (hp : p.block < B) (u : Value) : FX (w.setCell p u) (Av B (w.setCell p u) v) A ns :=
  h.mov (fun _ h => ⟨h.1, by simpa using h.2.1, h.2.2⟩) fun b h => Below.heap_setCell w p u b (by have := h.1; omega)
theorem hav_grown {w w' : World} {B : Nat} {Ao Ao' : Option Addr} {n n' c c' : Nat} {A : Option Addr} {ns : List Nat} (hg : w.grownBy w' (Value.ownBlock (.slice Ao n c))) (hnew : Ao' = Ao ∨ Ao' = some ⟨w.heap.size, 0, none⟩) (h : FX w (Av B w (.slice Ao n c)) A ns) : FX w' (Av B w' (.slice Ao' n' c')) A ns :=
  h.mov (fun b hb => (Av.grown hg hnew hb).1) fun b hb => (Av.grown (n' := n') (c' := c') hg hnew hb).2
theorem gx_fresh {w0 w : World} {v : Value} {g : G} {A : Option Addr} {c : Nat} {A' : Option Addr} {c' : Nat} (hv : ∀ b, v.ownBlock = some b → b < w0.heap.size) (h : GX w (Fr w0.heap.size w) g A c A' c') {B : Nat} (hB : B ≤ w0.heap.size) (o : Obj) : GX (w.alloc o) (Av B (w.alloc o) v) g A c A' c' :=
  h.mov (fun b hb => ⟨Nat.le_trans hB hb.1, by have := hb.2; simp; omega, own_ne hv hb.1⟩) fun b hb => Below.heap_alloc w o b hb.2
def SFc (g : G) : Prop := allG okF g → ∀ (d' : Nat), d' < 4 → ∀ (A : Option Addr) (c : Nat) (A' : Option Addr) (c' : Nat) (w : World), GM w w.heap.size g A c A' c' →
  Calls Try.prog 41 #[GV g A c A' c', .int .i64 d'] w fun r w' => GRz w.heap.size (forceG d' g) r w' ∧ Below w.heap.size w w'
set_option maxHeartbeats 8000000 in
theorem sforce_any (g : G) : SFc g := by
  induction g using G.ind with
  | _ k e ns kids ih =>
    intro hok d' hd' A c A' c' w hg
    rw [allG_iff] at hok
    obtain ⟨⟨he0, he3, hns, hkl⟩, hokk⟩ := hok
    obtain ⟨d, rfl⟩ : ∃ d : Nat, e = (d : Int) := ⟨e.toNat, by omega⟩
    have hd : d < 4 := by omega
    rw [forceG_eq, Int.toNat_natCast]
    obtain ⟨hn, _, _, hgs⟩ := hg.parts
    simp only [G.nums, G.kids] at hn hgs
    have hpl := placesF_le d ns
    have s1 := fun (w' : World) (hb : Below w.heap.size w w') => places_any d hd ns A c hns w' (hn.below hb hb.size)
    have s2 := fun A c w hA => nums_anyz d' hd' (placesF d ns) A c (by omega) w hA
    generalize numsF d' (placesF d ns) = R at *
    generalize placesF d ns = P at *
    unfold PsR at s1
    unfold FRz at s2
    unfold GRz GV gCells
    simp only [G.kind, G.dim, G.nums, G.kids, List.length_map]
    have hb0 := b_alloc (b_alloc (b_alloc (Below.refl w.heap.size w) (.cells #[.int .i64 k, .int .i64 d, .slice A ns.length c, .slice A' kids.length c'] 26)) (.cells #[.int .i64 0, .int .i64 0, .slice none 0 0, .slice none 0 0] 26)) (.cells #[.int .i64 k, .int .i64 d', .slice none 0 0, .slice none 0 0] 26)
    have k0 := ((Blk.newAt w 26 #[.int .i64 k, .int .i64 d, .slice A ns.length c, .slice A' kids.length c'] rfl).alloc (.cells #[.int .i64 0, .int .i64 0, .slice none 0 0, .slice none 0 0] 26)).alloc (.cells #[.int .i64 k, .int .i64 d', .slice none 0 0, .slice none 0 0] 26)
    have k1 := (Blk.newAt (w.alloc (.cells #[.int .i64 k, .int .i64 d, .slice A ns.length c, .slice A' kids.length c'] 26)) 26 #[.int .i64 0, .int .i64 0, .slice none 0 0, .slice none 0 0] (n := w.heap.size + 1) (by simp)).alloc (.cells #[.int .i64 k, .int .i64 d', .slice none 0 0, .slice none 0 0] 26)
    have k2 := Blk.newAt ((w.alloc (.cells #[.int .i64 k, .int .i64 d, .slice A ns.length c, .slice A' kids.length c'] 26)).alloc (.cells #[.int .i64 0, .int .i64 0, .slice none 0 0, .slice none 0 0] 26)) 26 #[.int .i64 k, .int .i64 d', .slice none 0 0, .slice none 0 0] (n := w.heap.size + 1 + 1) (by simp)
    have S1 := Lib.hid s1
    have S2 := Lib.hid s2
    clear s1 s2
    go_enter Try.func41, Try.ntmps41
    go_wp2_with fail
    refine (S1.out _ hb0).mono ?_
    rintro e w1 ⟨⟨A1, c1, rfl, hf1⟩, hb1⟩
    have k0 := k0.stay hb1
    have k1 := k1.stay hb1
    have k2 := k2.stay hb1
    have hB := b_trans hb0 hb1
    have z1 := k2.lt
    go_wp2_with fail
    refine (S2.out _ _ _ hf1).mono ?_
    rintro e w2 ⟨⟨A2, c2, rfl, hc2, hf2⟩, hb2⟩
    have hf2 := hf2.up (lo' := w.heap.size + 3) (by omega)
    have k0 := k0.stay hb2
    have k1 := k1.stay hb2
    have k2 := k2.stay hb2
    have hB := b_trans hB hb2
    have z2 := k2.lt
    have k2' := k2.set_ 2 (.slice A2 R.length c2)
    have k1' := k1.far (p := ⟨w.heap.size + 1 + 1, 2, none⟩) (by simp) (.slice A2 R.length c2)
    have k0' := k0.far (p := ⟨w.heap.size + 1 + 1, 2, none⟩) (by first | (simp; done) | (simp; omega)) (.slice A2 R.length c2)
    have hB' := b_set hB ⟨w.heap.size + 1 + 1, 2, none⟩ (by first | (simp; done) | (simp; omega)) (.slice A2 R.length c2)
    have hf2' := hf2.setBelow (p := ⟨w.heap.size + 1 + 1, 2, none⟩) (by first | (simp; done) | (simp; omega)) (.slice A2 R.length c2)
    have hok0 : OwnGs (w2.setCell ⟨w.heap.size + 1 + 1, 2, none⟩ (.slice A2 R.length c2)) (w.heap.size + 3) 26 (.slice none 0 0) ((kids.take 0).map (forceG d')) := OwnGs.nil _ _ _
    have hav : FX (w2.setCell ⟨w.heap.size + 1 + 1, 2, none⟩ (.slice A2 R.length c2)) (Av (w.heap.size + 3) (w2.setCell ⟨w.heap.size + 1 + 1, 2, none⟩ (.slice A2 R.length c2)) (.slice none 0 0)) A2 R := hf2'.mov (fun _ h => ⟨h.1, h.2, by simp [Value.ownBlock]⟩) fun _ _ => rfl
    have o0 := k0.cell 0
    have o1 := k0.cell 1
    have o2 := k0.cell 2
    have o3 := k0.cell 3
    have p2 := k2.cell 2
    have fz := k2.frozen
    simp at o0 o1 o2 o3 p2
    clear S1 S2 hb0 hb1 hb2 hf1 k0 k1 k2
    go_wp2_with fail
    go_loopw [23] (fun i wr => ∃ (j : Nat) (Ao : Option Addr) (co : Nat), j ≤ kids.length ∧ i = .int .i64 j ∧ OwnGs wr (w.heap.size + 3) 26 (.slice Ao j co) ((kids.take j).map (forceG d')) ∧ FX wr (Av (w.heap.size + 3) wr (.slice Ao j co)) A2 R ∧
      Blk wr (w.heap.size + 1 + 1) 26 #[.int .i64 k, .int .i64 d', .slice A2 R.length c2, .slice Ao j co] ∧ Blk wr (w.heap.size + 1) 26 #[.int .i64 0, .int .i64 0, .slice none 0 0, .slice none 0 0] ∧ Below w.heap.size w wr) (fun i _ => kids.length - (intOf i).toNat)
    case atStart =>
      refine ⟨0, none, 0, Nat.zero_le _, rfl, hok0, hav, ?_, k1', hB'⟩
      exact k2'.cast (by simp)
    case round =>
      clear hok0 hav k2' k1' k0' hB' hf2' hf2 hB o0 o1 o2 o3 p2 fz
      obtain ⟨j, Ao, co, hj, rfl, hown, hav, ko, kr, hb⟩ := hrel
      by_cases hlt : j < kids.length
      · obtain ⟨b, off, B1, d1, B2, d2, rfl, hbl, q0, q1, q2, q3, hgm⟩ := (hgs.below hb hb.size).at hlt
        have hih := ih kids[j] (List.getElem_mem hlt) (hokk _ (List.getElem_mem hlt)) d' hd' B1 d1 B2 d2
        have hba := b_alloc (Below.refl wr.heap.size wr) (.cells (gCells kids[j] B1 d1 B2 d2) 26)
        have hg7 := hgm.mov hba hba.size
        have kt := Blk.new wr 26 (gCells kids[j] B1 d1 B2 d2)
        have htk : (kids.take (j + 1)).map (forceG d') = (kids.take j).map (forceG d') ++ [forceG d' kids[j]] := by
          rw [List.take_succ_eq_append_getElem hlt, List.map_append]; rfl
        have HTK := Lib.hid htk
        clear htk
        unfold GRz at hih
        unfold GV gCells at *
        generalize forceG d' kids[j] = fg at *
        generalize kids[j] = g0 at *
        have IH := Lib.hid hih
        clear hih
        have hB0 := b_trans hb hba
        have hg8 := hg7.mov (b_drew (Below.refl _ _)) (Nat.le_refl _)
        have kp := ko.alloc (.cells #[.int .i64 g0.kind, .int .i64 g0.dim, .slice B1 g0.nums.length d1, .slice B2 g0.kids.length d2] 26)
        have kq := kr.alloc (.cells #[.int .i64 g0.kind, .int .i64 g0.dim, .slice B1 g0.nums.length d1, .slice B2 g0.kids.length d2] 26)
        have hownA := (hown.below hba).drew
        have havA := hav.mov (w' := (wr.alloc (.cells #[.int .i64 g0.kind, .int .i64 g0.dim, .slice B1 g0.nums.length d1, .slice B2 g0.kids.length d2] 26)).drew) (ok' := Av (w.heap.size + 3) (wr.alloc (.cells #[.int .i64 g0.kind, .int .i64 g0.dim, .slice B1 g0.nums.length d1, .slice B2 g0.kids.length d2] 26)).drew (.slice Ao j co)) (fun _ h => ⟨h.1, Nat.lt_of_lt_of_le h.2.1 hba.size, h.2.2⟩) fun b h => hba.block b h.2.1
        have zwr := ko.lt
        have hownlt' : ∀ b, Value.ownBlock (.slice Ao j co) = some b → b < wr.heap.size := own_lt hown
        have hownlt : ∀ b, Value.ownBlock (.slice Ao j co) = some b → b < (wr.alloc (.cells #[.int .i64 g0.kind, .int .i64 g0.dim, .slice B1 g0.nums.length d1, .slice B2 g0.kids.length d2] 26)).drew.heap.size := own_lt hownA
        have pc := ko.cell 3
        simp at pc
        have hSt := And.intro hB0 (And.intro kt trivial)
        clear hg7 ko kr hown hav
        go_wp2_with fail
        have hB' := b_drew hB0
        have hK0' := kt.drew
        obtain ⟨S, hS⟩ : ∃ S : World → Prop, ∀ w', S w' ↔ (w'.cell? ⟨wr.heap.size, 0, none⟩ = some (.int .i64 g0.kind) ∧ w'.cell? ⟨wr.heap.size, 1, none⟩ = some (.int .i64 g0.dim) ∧ w'.cell? ⟨wr.heap.size, 2, none⟩ = some (.slice B1 g0.nums.length d1) ∧ w'.cell? ⟨wr.heap.size, 3, none⟩ = some (.slice B2 g0.kids.length d2) ∧ w'.cell? ⟨w.heap.size + 1 + 1, 3, none⟩ = some (.slice Ao j co)) := ⟨_, fun _ => Iff.rfl⟩
        have hSof : ∀ w', Blk w' wr.heap.size 26 #[.int .i64 g0.kind, .int .i64 g0.dim, .slice B1 g0.nums.length d1, .slice B2 g0.kids.length d2] → Blk w' (w.heap.size + 1 + 1) 26 #[.int .i64 k, .int .i64 d', .slice A2 R.length c2, .slice Ao j co] → S w' := fun w' h1 h2 => (hS w').2 ⟨cell_of h1 rfl, cell_of h1 rfl, cell_of h1 rfl, cell_of h1 rfl, cell_of h2 rfl⟩
        have hS0 := hSof _ hK0' kp.drew
        refine wp_region_N (S := S) (M := fun i => decide (7 ≤ i)) (by kernel_rfl) ?_
        refine wpAnyN_take 0 (.pointer (some ⟨w.heap.size + 1 + 1, 3, none⟩)) rfl (by kernel_rfl) (by kernel_rfl) (by kernel_rfl) (by kernel_rfl) (fun _ _ _ h => h) (Or.inl ⟨rfl, fun w' hw' => by go_simp⟩) hS0 ?_
        simp only [Act.put, List.setIfInBounds_toArray, List.set_cons_zero, List.set_cons_succ]
        refine wpAnyN_take 1 (.slice Ao j co) rfl (by kernel_rfl) (by kernel_rfl) (by kernel_rfl) (by kernel_rfl) (fun _ _ _ h => h) (Or.inl ⟨rfl, fun w' hw' => by obtain ⟨z0, z1, z2, z3, z4⟩ := (hS _).1 hw'; go_simp⟩) hS0 ?_
        simp only [Act.put, List.setIfInBounds_toArray, List.set_cons_zero, List.set_cons_succ]
        refine wpAnyN_take 2 (.agg #[.int .i64 g0.kind, .int .i64 g0.dim, .slice B1 g0.nums.length d1, .slice B2 g0.kids.length d2]) rfl (by kernel_rfl) (by kernel_rfl) (by kernel_rfl) (by kernel_rfl) (fun _ _ _ h => h) (Or.inl ⟨rfl, fun w' hw' => by obtain ⟨z0, z1, z2, z3, z4⟩ := (hS _).1 hw'; go_simp⟩) hS0 ?_
        simp only [Act.put, List.setIfInBounds_toArray, List.set_cons_zero, List.set_cons_succ]
        refine wpAnyN_take 3 (.int .i64 d') rfl (by kernel_rfl) (by kernel_rfl) (by kernel_rfl) (by kernel_rfl) (fun _ _ _ h => h) (Or.inl ⟨rfl, fun w' hw' => by go_simp⟩) hS0 ?_
        simp only [Act.put, List.setIfInBounds_toArray, List.set_cons_zero, List.set_cons_succ]
        refine wpAnyN_one 4 (by kernel_rfl) rfl (fun K hK => ?_)
        go_simp
        refine (IH.out _ hg8).mono ?_
        rintro e w3 ⟨⟨A3, c3, A4, c4, rfl, hgx⟩, hb3⟩
        have hb4 := b_alloc hb3 (.cells #[.int .i64 fg.kind, .int .i64 fg.dim, .slice A3 fg.nums.length c3, .slice A4 fg.kids.length c4] 26)
        have kp3 := (kp.drew.stay hb3).alloc (.cells #[.int .i64 fg.kind, .int .i64 fg.dim, .slice A3 fg.nums.length c3, .slice A4 fg.kids.length c4] 26)
        have kq3 := (kq.drew.stay hb3).alloc (.cells #[.int .i64 fg.kind, .int .i64 fg.dim, .slice A3 fg.nums.length c3, .slice A4 fg.kids.length c4] 26)
        have kt2 := hK0'.stay hb3
        have kt3 := kt2.alloc (.cells #[.int .i64 fg.kind, .int .i64 fg.dim, .slice A3 fg.nums.length c3, .slice A4 fg.kids.length c4] 26)
        have hB3 := b_trans hB' hb4
        have hB2 := b_trans hB' hb3
        obtain ⟨L, hL1, hL2', hL3, hLl⟩ := (hownA.below hb4).row
        have havB := hav_stay havA hb4
        have hq := gx_fresh (B := w.heap.size + 3) hownlt hgx (by first | (simp; done) | (simp; omega)) (.cells #[.int .i64 fg.kind, .int .i64 fg.dim, .slice A3 fg.nums.length c3, .slice A4 fg.kids.length c4] 26)
        have pc3 := (kp.drew.stay hb3).cell 3
        simp at pc3
        have zp3 := (kp.drew.stay hb3).lt
        have z3 := hb3.size
        have kp2 := kp.drew.stay hb3
        refine hK _ _ ⟨fun _ => hSof _ kt2 kp2, ?_⟩
        clear hK K
        try simp only [Act.put, List.setIfInBounds_toArray, List.set_cons_zero, List.set_cons_succ]
        refine wpAnyN_one 5 (by kernel_rfl) rfl (fun K hK => ?_)
        go_simp
        refine hK _ _ ⟨fun _ => hSof _ kt3 kp3, ?_⟩
        clear hK K
        try simp only [Act.put, List.setIfInBounds_toArray, List.set_cons_zero, List.set_cons_succ]
        refine wpAnyN_one 6 (by kernel_rfl) rfl (fun K hK => ?_)
        refine step_app2 slGg (by rfl) _ _ (by rfl) (w.heap.size + 3) (A := Ao) (n := j) (c := co) (xs := q4s L) (by rfl) hL2' (X := some ⟨w3.heap.size, 0, none⟩) (m := 1) (cx := 1) (Q4.cells ⟨fg, A3, c3, A4, c4⟩) (by rfl) (by rfl) (cell1_blk (Blk.newAt _ _ _ rfl) 1) (q4_one _) (fun h => by cases h) (by unfold maxLen; omega) (by omega) (by first | omega | (simp at z3 ⊢; omega)) ?_
        intro A5 c5 w4 hown4 hgr4 hnew4
        have hown5 := OwnGs.step hL1 hL3 ⟨fg, A3, c3, A4, c4⟩ hown4 hLl.symm hgr4 hnew4 hq
        have hav5 := hav_grown (n' := j + 1) (c' := c5) hgr4 hnew4 havB
        have kp4 := kp3.grown hgr4 (own_far hL2' (by omega))
        have kq4 := kq3.grown hgr4 (own_far hL2' (by omega))
        have kt4 := kt3.grown hgr4 (own_ne hownlt' (Nat.le_refl _))
        have hB4 := b_grown hB3 hgr4 (by have := hB3.size; exact this) (fun b hb => by have := (hL2'.lt b hb).1; omega)
        have pc4 := kp4.cell 3
        simp at pc4
        have fz4 := kp4.frozen
        have z4 := kp4.lt
        refine hK _ _ ⟨fun _ => hSof _ kt4 kp4, ?_⟩
        clear hK K
        try simp only [Act.put, List.setIfInBounds_toArray, List.set_cons_zero, List.set_cons_succ]
        refine wpAnyN_one 7 (by kernel_rfl) rfl (fun K hK => ?_)
        go_simp
        refine hK _ _ ⟨fun h => absurd h (by decide), ?_⟩
        clear hK K
        try simp only [Act.put, List.setIfInBounds_toArray, List.set_cons_zero, List.set_cons_succ]
        refine wpAnyN_one 8 (by kernel_rfl) rfl (fun K hK => ?_)
        go_simp
        refine hK _ _ ⟨fun h => absurd h (by decide), ?_⟩
        clear hK K
        try simp only [Act.put, List.setIfInBounds_toArray, List.set_cons_zero, List.set_cons_succ]
        refine wpAnyN_done (by kernel_rfl) ?_ _
        clear kp3 kq3 kt3 kt2 kt4 havB hL2' hgr4 hnew4 pc3 kp kq hownA havA hg8 kt hSt hba hb3 hSof hS0
        go_wp2_with fail
        go_roundw
        case rel =>
          refine ⟨j + 1, A5, c5, by omega, by go_num, ?_, hav_set hav5 (by dsimp only; omega) _, (kp4.set_ _ _).cast (by simp), kq4.far (by simp) _, b_set hB4 _ (by dsimp only; omega) _⟩
          rw [HTK.out]
          exact hown5.set (by dsimp only; omega) _
        case measure => simp [intOf]; omega
      · obtain rfl : j = kids.length := by omega
        rw [List.take_length] at hown
        obtain ⟨g1, g2, g3⟩ := hown.gs
        have hfx : FX wr (Fr (w.heap.size + 3) wr) A2 R := hav.mov (fun _ h => ⟨h.1, h.2.1⟩) fun _ _ => rfl
        rw [List.length_map] at g1
        have r0 := kr.cell 0
        have r1 := kr.cell 1
        have r2 := kr.cell 2
        have r3 := kr.cell 3
        have p0 := ko.cell 0
        have p1 := ko.cell 1
        have p2 := ko.cell 2
        have p3 := ko.cell 3
        have fr := kr.frozen
        have zo := ko.lt
        simp at r0 r1 r2 r3 p0 p1 p2 p3
        clear hown g2 hlt hav
        go_wp2_with fail
        refine bodyPost_ret (v := .agg #[.int .i64 k, .int .i64 d', .slice A2 R.length c2, .slice Ao kids.length co]) (by simp [results, Try.results41, go_sem, r0, r1, r2, r3, p0, p1, p2, p3]) rfl ⟨⟨A2, c2, Ao, co, rfl, ?_⟩, ?_⟩
        · refine GX.of (?_ : FX _ _ _ _) hc2 (by rw [List.length_map]; exact g1) ?_
          · exact ((((hfx.setBelow (by dsimp only; omega) _).setBelow (by dsimp only; omega) _).setBelow (by dsimp only; omega) _).setBelow (by dsimp only; omega) _).up (by omega)
          · exact ((((g3.setBelow (by dsimp only; omega) _).setBelow (by dsimp only; omega) _).setBelow (by dsimp only; omega) _).setBelow (by dsimp only; omega) _).up (by omega)
        · repeat (first | exact hb | refine b_set ?_ _ (by first | (simp; done) | (simp; omega)) _)
end Geo
end Go.Proofs.Ytllomldpbkeioaa
