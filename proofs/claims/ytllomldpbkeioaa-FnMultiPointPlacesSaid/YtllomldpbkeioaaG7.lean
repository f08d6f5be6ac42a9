/- Walks: lines; a sequence's places. -/
import Derived.Test.YtllomldpbkeioaaG6
import Derived.BigRegion
namespace Go.Proofs.Ytllomldpbkeioaa
open Go.RowKit Go.Sort
namespace Geo
set_option linter.unusedSimpArgs false
/-- no number lies here -/
def noF (cs : Array Value) : Bool := cs.all fun v => match v with | .float .. => false | _ => true
def Off {α : Type} (g : Nat) (A : Option Addr) (ns : List α) : Prop := ns ≠ [] → ∀ b off sp, A = some ⟨b, off, sp⟩ → b ≠ g
theorem noF_at {cs : Array Value} (h : noF cs = true) {j : Nat} {k : FloatKind} {x : Nat} : cs[j]? ≠ some (.float k x) := by
  intro e
  obtain ⟨hj, e2⟩ := Array.getElem?_eq_some_iff.1 e
  unfold noF at h
  rw [Array.all_eq_true] at h
  have := h j hj
  rw [e2] at this
  cases this
theorem Fs.off {w : World} {B : Nat} {A : Option Addr} {ns : List Nat} (h : Fs w B A ns) {g : Nat} {t : TypeId} {cs : Array Value} (hb : Blk w g t cs) (hf : noF cs = true) : Off g A ns := by
  intro hne b off sp e hbg
  obtain ⟨b', off', e', _, hc⟩ := h hne
  rw [e] at e'
  simp at e'
  obtain ⟨rfl, rfl, rfl⟩ := e'
  subst hbg
  have h0 : 0 < ns.length := List.length_pos_iff.2 hne
  have := hc 0 h0
  rw [hb.cell] at this
  exact noF_at hf this
theorem Fs.set {w : World} {B : Nat} {A : Option Addr} {ns : List Nat} (h : Fs w B A ns) {g : Nat} (ho : Off g A ns) (i : Nat) (u : Value) : Fs (w.setCell ⟨g, i, none⟩ u) B A ns := by
  intro hne
  obtain ⟨b, off, e, hb, hc⟩ := h hne
  refine ⟨b, off, e, hb, fun j hj => ?_⟩
  have hbg := ho hne b off none e
  rw [World.cell?_of_block (a := ⟨b, off + j, none⟩) (Below.heap_setCell w ⟨g, i, none⟩ u b hbg)]
  exact hc j hj
theorem Fs.up {w : World} {B B' : Nat} {A : Option Addr} {ns : List Nat} (h : Fs w B A ns) (hB : B ≤ B') : Fs w B' A ns := fun hne => by
  obtain ⟨b, off, e, hb, hc⟩ := h hne
  exact ⟨b, off, e, by omega, hc⟩
theorem newline_any (d : Nat) (A : Option Addr) (n c : Nat) (w : World) : Calls Try.prog 51 #[SV d A n c] w fun r w' => r = .returned (SV d A n c) ∧ Below w.heap.size w w' := by
  unfold SV
  go_enter Try.func51, Try.ntmps51
  go_wp2
  refine bodyPost_ret (v := .agg #[.int .u8 d, .slice A n c]) (by simp [results, Try.results51, go_sem]) rfl ⟨rfl, ?_⟩
  (repeat (first | exact Below.refl _ _ | refine b_alloc ?_ _ | refine b_drew ?_ | refine b_drewN ?_ _ | refine b_set ?_ _ (by first | (simp; done) | (simp; omega) | assumption | (dsimp only; omega)) _ | refine b_trans ?_ (by assumption)))
theorem coords_any (d : Nat) (A : Option Addr) (n c : Nat) (w : World) : Calls Try.prog 34 #[SV d A n c] w fun r w' => r = .returned (SV d A n c) ∧ Below w.heap.size w w' := by
  unfold SV
  go_enter Try.func34, Try.ntmps34
  go_wp2
  refine bodyPost_ret (v := .agg #[.int .u8 d, .slice A n c]) (by simp [results, Try.results34, go_sem]) rfl ⟨rfl, ?_⟩
  (repeat (first | exact Below.refl _ _ | refine b_alloc ?_ _ | refine b_drew ?_ | refine b_drewN ?_ _ | refine b_set ?_ _ (by first | (simp; done) | (simp; omega) | assumption | (dsimp only; omega)) _ | refine b_trans ?_ (by assumption)))
theorem ctype_any (d : Nat) (A : Option Addr) (n c : Nat) (w : World) : Calls Try.prog 54 #[SV d A n c] w fun r w' => r = .returned (.int .u8 d) ∧ Below w.heap.size w w' := by
  unfold SV
  go_enter Try.func54, Try.ntmps54
  go_wp2
  go_ret
  refine ⟨rfl, ?_⟩
  (repeat (first | exact Below.refl _ _ | refine b_alloc ?_ _ | refine b_drew ?_ | refine b_drewN ?_ _ | refine b_set ?_ _ (by first | (simp; done) | (simp; omega) | assumption | (dsimp only; omega)) _ | refine b_trans ?_ (by assumption)))
theorem length_any (d : Nat) (hd : d < 4) (A : Option Addr) (n c : Nat) (hm : n ≤ 1000000) (w : World) : Calls Try.prog 55 #[SV d A n c] w fun r w' => r = .returned (.int .i64 ((n / wd d : Nat) : Int)) ∧ Below w.heap.size w w' := by
  have c1' := fun (w : World) => Calls.inClassEq (w := w) (dimension_any d hd)
  unfold SV
  rcases four hd with rfl | rfl | rfl | rfl
  all_goals
    simp only [c0, c1, c2, c3, c4, wd0, wd1, wd2, wd3] at *
    go_enter Try.func55, Try.ntmps55
    go_wp2
    refine wp_region_below (by kernel_rfl) (by kernel_rfl) ?_
    repeat (go_big_quiet_step ((with_reducible exact c1' _ _)))
    refine wpQuiet_nil ?_
    intro w1 hb1
    go_wp2
    go_ret
    refine ⟨by congr 2, ?_⟩
    (repeat (first | exact Below.refl _ _ | refine b_alloc ?_ _ | refine b_drew ?_ | refine b_drewN ?_ _ | refine b_set ?_ _ (by first | (simp; done) | (simp; omega) | assumption | (dsimp only; omega)) _ | refine b_trans ?_ (by assumption)))
theorem whole_nil (d : Nat) : whole d [] = [] := by unfold whole; simp
def lineF (g : G) : List Nat := if g.kind = 2 then whole (dim3 g.dim) g.nums else []
set_option maxHeartbeats 1000000 in
theorem line_any (g : G) (A : Option Addr) (c : Nat) (A' : Option Addr) (c' : Nat) (hm : g.nums.length ≤ 100000) (w : World) (hg : GM w w.heap.size g A c A' c') :
    Calls Try.prog 33 #[GV g A c A' c'] w fun r w' => SR (dim3 g.dim) (lineF g) r w' ∧ Below w.heap.size w w' := by
  obtain ⟨hn, _, _, _⟩ := hg.parts
  obtain ⟨k, d, ns, kids⟩ := g
  unfold GV gCells
  have e0 : lineF (.mk k d ns kids) = if k = 2 then whole (dim3 d) ns else [] := rfl
  have H0 := Lib.hid e0
  simp only [G.kind, G.dim, G.nums, G.kids] at *
  have s1 := fun (w' : World) (hb : Below w.heap.size w w') => sequence_any d ns A c hm w' (hn.below hb hb.size)
  have s2 := fun (w' : World) => sequence_any d [] none 0 (by simp) w' (Fs.nil _ _ _)
  have nl := fun A n c w => newline_any (dim3 d) A n c w
  clear e0 hg
  unfold SR SV at *
  have S1 := Lib.hid s1
  have S2 := Lib.hid s2
  have NL := Lib.hid nl
  clear s1 s2 nl
  generalize dim3 d = dd at *
  have hb0 := b_alloc (b_alloc (Below.refl w.heap.size w) (.cells #[.int .i64 k, .int .i64 d, .slice A ns.length c, .slice A' kids.length c'] 26)) (.cells #[.int .u8 0, .slice none 0 0] 57)
  have kk := Blk.newAt (w.alloc (.cells #[.int .i64 k, .int .i64 d, .slice A ns.length c, .slice A' kids.length c'] 26)) 57 #[.int .u8 0, .slice none 0 0] (n := w.heap.size + 1) (by simp)
  by_cases q : k = 2
  · subst q
    rw [if_pos rfl] at H0
    go_enter Try.func33, Try.ntmps33
    go_wp2_with fail
    refine (S1.out _ hb0).mono ?_
    rintro e w1 ⟨⟨Ar, cr, rfl, hcr, hfr⟩, hb1⟩
    have k1 := kk.stay hb1
    have hB1 := b_trans hb0 hb1
    clear hb0 kk
    go_wp2_with fail
    refine (NL.out _ _ _ _).mono ?_
    rintro e w2 ⟨rfl, hb2⟩
    have k2 := k1.stay hb2
    have p0 := k2.cell 0
    have p1 := k2.cell 1
    have fz := k2.frozen
    simp at p0 p1
    have hf2 := hfr.below hb2 hb2.size
    have hB2 := b_trans hB1 hb2
    clear hn S1 S2 NL hfr
    go_wp2
    refine bodyPost_ret (v := .agg #[.int .u8 dd, .slice Ar (whole dd ns).length cr]) (by simp [results, Try.results33, go_sem, p0, p1]) rfl ⟨⟨_, _, by rw [H0.out], by rw [H0.out]; exact hcr, ?_⟩, ?_⟩
    · rw [H0.out]
      have ho := hf2.off k2 (by simp [noF])
      exact ((hf2.set ho _ _).set ho _ _).up (by simp)
    · exact b_set (b_set hB2 _ (Nat.le_succ _) _) _ (Nat.le_succ _) _
  · rw [if_neg q] at H0
    go_enter Try.func33, Try.ntmps33
    go_wp2_with fail
    refine (S2.out _).mono ?_
    rintro e w1 ⟨⟨Ar, cr, rfl, hcr, hfr⟩, hb1⟩
    rw [whole_nil] at *
    have k1 := kk.stay hb1
    have hB1 := b_trans hb0 hb1
    clear hb0 kk
    go_wp2_with fail
    refine (NL.out _ _ _ _).mono ?_
    rintro e w2 ⟨rfl, hb2⟩
    have k2 := k1.stay hb2
    have p0 := k2.cell 0
    have p1 := k2.cell 1
    have fz := k2.frozen
    simp at p0 p1
    have hB2 := b_trans hB1 hb2
    clear hn S1 S2 NL hfr
    go_wp2
    refine bodyPost_ret (v := .agg #[.int .u8 dd, .slice Ar 0 cr]) (by simp [results, Try.results33, go_sem, p0, p1]) rfl ⟨⟨_, _, by rw [H0.out]; rfl, by rw [H0.out]; exact hcr, ?_⟩, ?_⟩
    · rw [H0.out]
      exact Fs.nil _ _ _
    · exact b_set (b_set hB2 _ (Nat.le_succ _) _) _ (Nat.le_succ _) _
end Geo
end Go.Proofs.Ytllomldpbkeioaa
