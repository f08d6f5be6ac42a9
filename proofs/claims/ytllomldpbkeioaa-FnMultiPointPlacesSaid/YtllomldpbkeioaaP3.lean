/- Walks: rows of points. -/
import Derived.Test.YtllomldpbkeioaaP2
import Derived.Test.YtllomldpbkeioaaRot2
namespace Go.Proofs.Ytllomldpbkeioaa
open Go.RowKit Go.Sort
namespace Geo
set_option linter.unusedSimpArgs false
def Pt.cells (q : Pt) : Array Value := pCells q.p q.d q.f
/-- points behind an address -/
def PtM (w : World) (B : Nat) (A : Option Addr) (qs : List Pt) : Prop :=
  qs ≠ [] → ∃ b off, A = some ⟨b, off, none⟩ ∧ b < B ∧ ∀ i (_ : i < qs.length), ∀ j, j < 6 → w.cell? ⟨b, off + i * 6 + j, none⟩ = qs[i].cells[j]?
theorem PtM.below {w w' : World} {B B' : Nat} {A : Option Addr} {qs : List Pt} (h : PtM w B A qs) (hb : Below B w w') (hB : B ≤ B') : PtM w' B' A qs := fun hne => by
  obtain ⟨b, off, e, hlt, hc⟩ := h hne
  exact ⟨b, off, e, by omega, fun i hi j hj => by rw [hb.cell (p := ⟨b, _, none⟩) hlt]; exact hc i hi j hj⟩
theorem PtM.nil (w : World) (B : Nat) (A : Option Addr) : PtM w B A [] := fun h => absurd rfl h
def PtR (L : List Pt) (e : Ending) (w' : World) : Prop := ∃ A c, e = .returned (.slice A L.length c) ∧ PtM w' w'.heap.size A L
theorem slPt : SL Try.prog 79 100 (.agg #[.float .f64 0, .float .f64 0, .float .f64 0, .float .f64 0, .int .u8 0, .bool false]) 6 48 := ⟨Try.underlying79, info_parts (by kernel_rfl), rfl, by decide⟩
def forceP (d' : Nat) (q : Pt) : Pt := ⟨if q.f then pForce q.p q.d d' else p40, d', q.f⟩
def set6 (cs : Array Value) (k : Nat) (q : Pt) : Array Value :=
  (((((cs.setIfInBounds (k * 6) (.float .f64 q.p.x)).setIfInBounds (k * 6 + 1) (.float .f64 q.p.y)).setIfInBounds (k * 6 + 2) (.float .f64 q.p.z)).setIfInBounds (k * 6 + 3) (.float .f64 q.p.m)).setIfInBounds (k * 6 + 4) (.int .u8 q.d)).setIfInBounds (k * 6 + 5) (.bool q.f)
theorem set6_size (cs : Array Value) (k : Nat) (q : Pt) : (set6 cs k q).size = cs.size := by simp [set6]
theorem set6_other {cs : Array Value} {k i : Nat} {q : Pt} (h : i ≠ k) {j : Nat} (hj : j < 6) : (set6 cs k q)[i * 6 + j]? = cs[i * 6 + j]? := by
  unfold set6
  rw [set_at, if_neg (by omega), set_at, if_neg (by omega), set_at, if_neg (by omega), set_at, if_neg (by omega), set_at, if_neg (by omega), set_at, if_neg (by omega)]
theorem set6_at {cs : Array Value} {k : Nat} {q : Pt} (h : k * 6 + 5 < cs.size) {j : Nat} (hj : j < 6) : (set6 cs k q)[k * 6 + j]? = q.cells[j]? := by
  unfold set6 Pt.cells pCells
  rcases (by omega : j = 0 ∨ j = 1 ∨ j = 2 ∨ j = 3 ∨ j = 4 ∨ j = 5) with rfl | rfl | rfl | rfl | rfl | rfl
  · rw [set_at, if_neg (by omega), set_at, if_neg (by omega), set_at, if_neg (by omega), set_at, if_neg (by omega), set_at, if_neg (by omega), set_at, if_pos (by omega), if_pos (by omega)]; rfl
  · rw [set_at, if_neg (by omega), set_at, if_neg (by omega), set_at, if_neg (by omega), set_at, if_neg (by omega), set_at, if_pos (by omega), if_pos (by simp; omega)]; rfl
  · rw [set_at, if_neg (by omega), set_at, if_neg (by omega), set_at, if_neg (by omega), set_at, if_pos (by omega), if_pos (by simp; omega)]; rfl
  · rw [set_at, if_neg (by omega), set_at, if_neg (by omega), set_at, if_pos (by omega), if_pos (by simp; omega)]; rfl
  · rw [set_at, if_neg (by omega), set_at, if_pos (by omega), if_pos (by simp; omega)]; rfl
  · rw [set_at, if_pos (by omega), if_pos (by simp; omega)]; rfl
theorem PtM.at {w : World} {B : Nat} {A : Option Addr} {qs : List Pt} (h : PtM w B A qs) {i : Nat} (hi : i < qs.length) : ∃ b off, A = some ⟨b, off, none⟩ ∧ b < B ∧ w.cell? ⟨b, off + i * 6, none⟩ = some (.float .f64 qs[i].p.x) ∧ w.cell? ⟨b, off + i * 6 + 1, none⟩ = some (.float .f64 qs[i].p.y) ∧
    w.cell? ⟨b, off + i * 6 + 2, none⟩ = some (.float .f64 qs[i].p.z) ∧ w.cell? ⟨b, off + i * 6 + 3, none⟩ = some (.float .f64 qs[i].p.m) ∧ w.cell? ⟨b, off + i * 6 + 4, none⟩ = some (.int .u8 qs[i].d) ∧ w.cell? ⟨b, off + i * 6 + 5, none⟩ = some (.bool qs[i].f) := by
  obtain ⟨b, off, e, hb, hc⟩ := h (fun e => by subst e; simp at hi)
  exact ⟨b, off, e, hb, hc i hi 0 (by omega), hc i hi 1 (by omega), hc i hi 2 (by omega), hc i hi 3 (by omega), hc i hi 4 (by omega), hc i hi 5 (by omega)⟩
set_option maxHeartbeats 4000000 in
theorem forceslice_any (qs : List Pt) (hqs : ∀ q ∈ qs, q.d < 4) (d' : Nat) (hd' : d' < 4) (A : Option Addr) (c : Nat) (hl : qs.length ≤ 10000) (w : World) (hA : PtM w w.heap.size A qs) :
    Calls Try.prog 75 #[.slice A qs.length c, .int .u8 d'] w fun e w' => PtR (qs.map (forceP d')) e w' ∧ Below w.heap.size w w' := by
  have hmk := fun w => mk_all slPt qs.length (by omega) (by omega) w
  obtain ⟨M, hM⟩ : ∃ M, M = madeCells (Value.agg #[.float .f64 0, .float .f64 0, .float .f64 0, .float .f64 0, .int .u8 0, .bool false]).cells (qs.length * 6) := ⟨_, rfl⟩
  have hMs : M.size = qs.length * 6 := by rw [hM, size_madeCells]
  rw [← hM] at hmk
  clear hM
  obtain ⟨g, hg⟩ : ∃ g, g = w.heap.size := ⟨_, rfl⟩
  have kg := Blk.newAt w 100 M hg
  have hb0 := b_alloc (Below.refl w.heap.size w) (.cells M 100)
  have hgB : w.heap.size ≤ g := by omega
  have HG := Lib.hid hg
  go_enter Try.func75, Try.ntmps75
  go_wp2_with fail
  rw [← hg]
  clear hg
  go_loopw [13] (fun i wr => ∃ (k : Nat) (cs : Array Value), k ≤ qs.length ∧ i = .int .i64 k ∧ Blk wr g 100 cs ∧ cs.size = qs.length * 6 ∧ Hid (∀ i (_ : i < qs.length), i < k → ∀ j, j < 6 → cs[i * 6 + j]? = (forceP d' qs[i]).cells[j]?) ∧ Below w.heap.size w wr) (fun i _ => qs.length - (intOf i).toNat)
  case atStart => exact ⟨0, M, Nat.zero_le _, rfl, kg, hMs, fun i _ h => absurd h (by omega), hb0⟩
  case round =>
    clear kg hb0 hMs hmk
    obtain ⟨k, cs, hk, rfl, kb, hcs, hAt, hb⟩ := hrel
    by_cases hlt : k < qs.length
    · obtain ⟨b, off, rfl, hbl, q0, q1, q2, q3, q4, q5⟩ := (hA.below hb hb.size).at hlt
      have hq := hqs qs[k] (List.getElem_mem hlt)
      have s1 := fun w => pforce_any qs[k].p qs[k].d d' hq hd' qs[k].f w
      have hfp : PV (if qs[k].f then pForce qs[k].p qs[k].d d' else p40) d' qs[k].f = .agg (forceP d' qs[k]).cells := rfl
      rw [hfp] at s1
      have hd9 : (forceP d' qs[k]).d = d' := rfl
      have hstep : ∀ (cs' : Array Value), (∀ i (_ : i < qs.length), i < k → ∀ j, j < 6 → cs'[i * 6 + j]? = (forceP d' qs[i]).cells[j]?) → (∀ j, j < 6 → cs'[k * 6 + j]? = (forceP d' qs[k]).cells[j]?) → ∀ i (_ : i < qs.length), i < k + 1 → ∀ j, j < 6 → cs'[i * 6 + j]? = (forceP d' qs[i]).cells[j]? := by
        intro cs' h1 h2 i hi hik
        by_cases e : i = k
        · subst e; exact h2
        · exact h1 i hi (by omega)
      have HSTEP := Lib.hid hstep
      unfold Pt.cells PV pCells at s1
      have S1 := Lib.hid s1
      have hba := b_alloc (Below.refl wr.heap.size wr) (.cells #[.float .f64 qs[k].p.x, .float .f64 qs[k].p.y, .float .f64 qs[k].p.z, .float .f64 qs[k].p.m, .int .u8 qs[k].d, .bool qs[k].f] 100)
      have kb1 := kb.alloc (.cells #[.float .f64 qs[k].p.x, .float .f64 qs[k].p.y, .float .f64 qs[k].p.z, .float .f64 qs[k].p.m, .int .u8 qs[k].d, .bool qs[k].f] 100)
      have hB1 := b_trans hb hba
      clear s1 hstep hfp hq hd9
      generalize forceP d' qs[k] = fp at *
      generalize qs[k] = q at *
      go_wp2_with fail
      refine (S1.out _).mono ?_
      rintro e w2 ⟨rfl, hb2⟩
      have kb2 := kb1.stay hb2
      have hB2 := b_trans hB1 hb2
      have fz := kb2.frozen
      obtain ⟨v0, hv0⟩ := some_at (cs := cs) (i := k * 6) (by omega)
      obtain ⟨v1, hv1⟩ := some_at (cs := cs) (i := k * 6 + 1) (by omega)
      obtain ⟨v2, hv2⟩ := some_at (cs := cs) (i := k * 6 + 2) (by omega)
      obtain ⟨v3, hv3⟩ := some_at (cs := cs) (i := k * 6 + 3) (by omega)
      obtain ⟨v4, hv4⟩ := some_at (cs := cs) (i := k * 6 + 4) (by omega)
      obtain ⟨v5, hv5⟩ := some_at (cs := cs) (i := k * 6 + 5) (by omega)
      rw [← kb2.cell] at hv0 hv1 hv2 hv3 hv4 hv5
      have zo := kb2.lt
      clear S1 q0 q1 q2 q3 q4 q5 hba kb1 hB1
      go_wp2_with fail
      go_roundw
      case rel =>
        refine ⟨k + 1, set6 cs k fp, by omega, by go_num, (((((kb2.set_ _ _).set_ _ _).set_ _ _).set_ _ _).set_ _ _).set_ _ _, by rw [set6_size]; exact hcs, HSTEP.out _ (fun i hi hik j hj => ?_) (fun j hj => set6_at (by omega) hj), ?_⟩
        · rw [set6_other (by omega) hj]; exact hAt.out i hi hik j hj
        · repeat (first | with_reducible exact hB2 | with_reducible refine b_set ?_ _ (by first | (simp; done) | (simp; omega) | (dsimp only; omega)) _)
      case measure => simp [intOf]; omega
    · obtain rfl : k = qs.length := by omega
      clear hlt
      go_wp2_with fail
      go_ret
      refine ⟨⟨some ⟨g, 0, none⟩, qs.length, ?_, fun _ => ⟨g, 0, rfl, kb.lt, fun i hi j hj => ?_⟩⟩, hb⟩
      · rw [List.length_map]; rfl
      · rw [List.length_map] at hi
        rw [kb.cell, Nat.zero_add, hAt.out i hi hi j hj, List.getElem_map]
end Geo
end Go.Proofs.Ytllomldpbkeioaa
