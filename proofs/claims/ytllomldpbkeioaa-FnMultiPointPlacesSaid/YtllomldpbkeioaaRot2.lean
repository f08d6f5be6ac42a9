/- Walks: lines moved around. -/
import Derived.Test.YtllomldpbkeioaaRot
import Derived.Test.YtllomldpbkeioaaG12
namespace Go.Proofs.Ytllomldpbkeioaa
open Go.RowKit Go.Sort
namespace Geo
set_option linter.unusedSimpArgs false
theorem slS : SL Try.prog 52 55 (.agg #[.int .u8 0, .slice none 0 0]) 2 32 := ⟨Try.underlying52, info_parts (by kernel_rfl), rfl, by decide⟩
theorem slG : SL Try.prog 22 26 (.agg #[.int .i64 0, .int .i64 0, .slice none 0 0, .slice none 0 0]) 4 64 := ⟨Try.underlying22, info_parts (by kernel_rfl), rfl, by decide⟩
theorem made_get {z : Array Value} {n i : Nat} (h : i < n) : (madeCells z n)[i]? = some z[i % z.size]! := by
  unfold madeCells; rw [Array.getElem?_map, Array.getElem?_eq_getElem (by simpa using h)]; simp
theorem made_noF {z : Array Value} {n : Nat} (h : noF z = true) (hz : 0 < z.size) : noF (madeCells z n) = true := by
  unfold noF
  rw [Array.all_eq_true]
  intro i hi
  rw [size_madeCells] at hi
  have h1 := made_get (z := z) hi
  rw [Array.getElem?_eq_getElem (by rw [size_madeCells]; exact hi)] at h1
  rw [Option.some.inj h1]
  have hm : i % z.size < z.size := Nat.mod_lt _ hz
  rw [getElem!_pos z _ hm]
  unfold noF at h
  rw [Array.all_eq_true] at h
  exact h _ hm
theorem noF_of {cs : Array Value} (h : ∀ (j : Nat) (k : FloatKind) (x : Nat), cs[j]? ≠ some (.float k x)) : noF cs = true := by
  unfold noF
  rw [Array.all_eq_true]
  intro i hi
  have h1 := h i
  rw [Array.getElem?_eq_getElem hi] at h1
  split
  · rename_i k x e; exact absurd (by rw [e]) (h1 k x)
  · rfl
theorem noF_set {cs : Array Value} (h : noF cs = true) (i : Nat) {v : Value} (hv : ∀ k x, v ≠ .float k x) : noF (cs.setIfInBounds i v) = true := by
  refine noF_of fun j k x => ?_
  rw [Array.getElem?_setIfInBounds]
  split
  · split
    · intro e; exact hv k x (Option.some.inj e)
    · intro e; cases e
  · exact noF_at h
theorem made_sq (n : Nat) : SqCells (madeCells (Value.agg #[.int .u8 0, .slice none 0 0]).cells (n * 2)) := fun i hi => by
  rw [size_madeCells] at hi
  refine ⟨0, none, 0, 0, ?_, ?_⟩
  · rw [made_get (by omega)]
    have : i * 2 % 2 = 0 := by omega
    simp [Value.cells, this]
  · rw [made_get (by omega)]
    have : (i * 2 + 1) % 2 = 1 := by omega
    simp [Value.cells, this]
theorem SqCells.set {cs : Array Value} (h : SqCells cs) (k : Nat) (d : Int) (A : Option Addr) (n c : Nat) : SqCells ((cs.setIfInBounds (k * 2) (.int .u8 d)).setIfInBounds (k * 2 + 1) (.slice A n c)) := fun i hi => by
  simp only [Array.size_setIfInBounds] at hi
  by_cases e : i = k
  · subst e
    refine ⟨d, A, n, c, ?_, ?_⟩
    · rw [set_at, if_neg (by omega), set_at, if_pos rfl, if_pos (by omega)]
    · rw [set_at, if_pos rfl, if_pos (by simpa using hi)]
  · obtain ⟨d', A', n', c', h1, h2⟩ := h i hi
    refine ⟨d', A', n', c', ?_, ?_⟩
    · rw [set_at, if_neg (by omega), set_at, if_neg (by omega), h1]
    · rw [set_at, if_neg (by omega), set_at, if_neg (by omega), h2]
/-- the sequence at i -/
def SqAt (w : World) (B : Nat) (cs : Array Value) (i d : Nat) (ns : List Nat) : Prop := ∃ A c, cs[i * 2]? = some (.int .u8 d) ∧ cs[i * 2 + 1]? = some (.slice A ns.length c) ∧ ns.length ≤ c ∧ Fs w B A ns
theorem SqAt.cellsEq {w : World} {B : Nat} {cs cs' : Array Value} {i j d : Nat} {ns : List Nat} (h : SqAt w B cs i d ns) (e : ∀ r, r < 2 → cs'[j * 2 + r]? = cs[i * 2 + r]?) : SqAt w B cs' j d ns := by
  obtain ⟨A, c, h1, h2, h3, h4⟩ := h
  have e0 := e 0 (by omega)
  rw [Nat.add_zero, Nat.add_zero] at e0
  exact ⟨A, c, e0.trans h1, (e 1 (by omega)).trans h2, h3, h4⟩
theorem SqAt.mono {w w' : World} {B B' : Nat} {cs : Array Value} {i d : Nat} {ns : List Nat} (h : SqAt w B cs i d ns) (f : ∀ A, Fs w B A ns → Fs w' B' A ns) : SqAt w' B' cs i d ns := by
  obtain ⟨A, c, h1, h2, h3, h4⟩ := h
  exact ⟨A, c, h1, h2, h3, f A h4⟩
theorem SqAt.setOther {w : World} {B : Nat} {cs : Array Value} {i k d : Nat} {ns : List Nat} (h : SqAt w B cs i d ns) (hk : i ≠ k) (u v : Value) : SqAt w B ((cs.setIfInBounds (k * 2) u).setIfInBounds (k * 2 + 1) v) i d ns := by
  refine h.cellsEq fun r hr => ?_
  rw [set_at, if_neg (by omega), set_at, if_neg (by omega)]
theorem Fs.grown {w w' : World} {B : Nat} {A : Option Addr} {ns : List Nat} (h : Fs w B A ns) {g : Nat} (ho : Off g A ns) (hg : w.grownBy w' (some g)) (hB : B ≤ w.heap.size) : Fs w' B A ns := by
  intro hne
  obtain ⟨b, off, e, hb, hc⟩ := h hne
  refine ⟨b, off, e, hb, fun j hj => ?_⟩
  have hbg := ho hne b off none e
  rw [World.cell?_of_block (a := ⟨b, off + j, none⟩) (hg.block b (by omega) (by simpa using hbg))]
  exact hc j hj
/-- a line made anew and read again -/
def outG (g : G) : G := .mk 2 (dim3 g.dim) (numsF (dim3 g.dim) (placesF (dim3 g.dim) (lineF g))) []
def noG : G := .mk 0 0 [] []
def rotOut (gs : List G) (r : Nat) : List G := (List.range gs.length).map fun i => outG (gs.getD (rt gs.length r i) noG)
theorem rotOut_length (gs : List G) (r : Nat) : (rotOut gs r).length = gs.length := by simp [rotOut]
theorem rt_lt {n r i : Nat} (hr : r ≤ n) (hi : i < n) : rt n r i < n := by unfold rt; split <;> omega
def GsR (L : List G) (e : Ending) (w' : World) : Prop := ∃ A c, e = .returned (.slice A L.length c) ∧ L.length ≤ c ∧ Gs w' w'.heap.size A L
/-- what lies at i is this line -/
def OutAt (w : World) (B : Nat) (cs : Array Value) (i : Nat) (g : G) : Prop := ∃ A1 c1 A2 c2, (∀ j, j < 4 → cs[i * 4 + j]? = (gCells g A1 c1 A2 c2)[j]?) ∧ g.nums.length ≤ c1 ∧ g.kids.length ≤ c2 ∧ Fs w B A1 g.nums
theorem OutAt.mono {w w' : World} {B B' : Nat} {cs : Array Value} {i : Nat} {g : G} (h : OutAt w B cs i g) (f : ∀ A, Fs w B A g.nums → Fs w' B' A g.nums) : OutAt w' B' cs i g := by
  obtain ⟨A1, c1, A2, c2, h1, h2, h3, h4⟩ := h
  exact ⟨A1, c1, A2, c2, h1, h2, h3, f _ h4⟩
def set4 (cs : Array Value) (k : Nat) (a b c d : Value) : Array Value := (((cs.setIfInBounds (k * 4) a).setIfInBounds (k * 4 + 1) b).setIfInBounds (k * 4 + 2) c).setIfInBounds (k * 4 + 3) d
theorem OutAt.setOther {w : World} {B : Nat} {cs : Array Value} {i k : Nat} {g : G} (h : OutAt w B cs i g) (hk : i ≠ k) (a b c d : Value) : OutAt w B (set4 cs k a b c d) i g := by
  obtain ⟨A1, c1, A2, c2, h1, h2, h3, h4⟩ := h
  refine ⟨A1, c1, A2, c2, fun j hj => ?_, h2, h3, h4⟩
  unfold set4
  rw [set_at, if_neg (by omega), set_at, if_neg (by omega), set_at, if_neg (by omega), set_at, if_neg (by omega)]
  exact h1 j hj
theorem OutAt.new {w : World} {B : Nat} {cs : Array Value} {k : Nat} {g : G} {A1 : Option Addr} {c1 : Nat} {A2 : Option Addr} {c2 : Nat} (hk : k * 4 + 3 < cs.size) (h2 : g.nums.length ≤ c1) (h3 : g.kids.length ≤ c2) (h4 : Fs w B A1 g.nums) :
    OutAt w B (set4 cs k (.int .i64 g.kind) (.int .i64 g.dim) (.slice A1 g.nums.length c1) (.slice A2 g.kids.length c2)) k g := by
  refine ⟨A1, c1, A2, c2, fun j hj => ?_, h2, h3, h4⟩
  unfold set4 gCells
  rcases (by omega : j = 0 ∨ j = 1 ∨ j = 2 ∨ j = 3) with rfl | rfl | rfl | rfl
  · rw [set_at, if_neg (by omega), set_at, if_neg (by omega), set_at, if_neg (by omega), set_at, if_pos (by omega), if_pos (by omega)]; rfl
  · rw [set_at, if_neg (by omega), set_at, if_neg (by omega), set_at, if_pos (by omega), if_pos (by simp; omega)]; rfl
  · rw [set_at, if_neg (by omega), set_at, if_pos (by omega), if_pos (by simp; omega)]; rfl
  · rw [set_at, if_pos (by omega), if_pos (by simp; omega)]; rfl
theorem gs_of_out {w : World} {g : Nat} {t : TypeId} {cs : Array Value} {L : List G} (hb : Blk w g t cs) (hk : ∀ x ∈ L, x.kids = []) (h : ∀ i (_ : i < L.length), OutAt w w.heap.size cs i L[i]) : Gs w w.heap.size (some ⟨g, 0, none⟩) L := by
  intro _
  refine ⟨g, 0, rfl, hb.lt, fun i hi => ?_⟩
  obtain ⟨A1, c1, A2, c2, h1, h2, h3, h4⟩ := h i hi
  refine ⟨A1, c1, A2, c2, fun j hj => ?_, ?_⟩
  · rw [hb.cell, Nat.zero_add]; exact h1 j hj
  · have he := L[i].eta
    have hk0 := hk L[i] (List.getElem_mem hi)
    rw [hk0] at h3
    rw [he, hk0]
    exact GM.of h4 h2 h3 (Gs.nil _ _ _)
set_option maxHeartbeats 4000000 in
theorem rotlines_any (gs : List G) (A : Option Addr) (c : Nat) (r : Nat) (hr : r ≤ gs.length) (hl : gs.length ≤ 10000) (hm : ∀ g ∈ gs, g.nums.length ≤ 10000) (w : World) (hA : Gs w w.heap.size A gs) :
    Calls Try.prog 11 #[.slice A gs.length c, .int .i64 r] w fun e w' => GsR (rotOut gs r) e w' ∧ Below w.heap.size w w' := by
  have hmk := fun w => mk_all slS gs.length (by omega) (by omega) w
  have hmk2 := fun w => mk_all slG gs.length (by omega) (by omega) w
  obtain ⟨M, hM⟩ : ∃ M, M = madeCells (Value.agg #[.int .u8 0, .slice none 0 0]).cells (gs.length * 2) := ⟨_, rfl⟩
  have hMs : M.size = gs.length * 2 := by rw [hM, size_madeCells]
  have hMf : noF M = true := by rw [hM]; exact made_noF (by simp [noF, Value.cells]) (by decide)
  have hMq : SqCells M := by rw [hM]; exact made_sq _
  rw [← hM] at hmk
  clear hM
  obtain ⟨M2, hM2⟩ : ∃ M, M = madeCells (Value.agg #[.int .i64 0, .int .i64 0, .slice none 0 0, .slice none 0 0]).cells (gs.length * 4) := ⟨_, rfl⟩
  have hM2s : M2.size = gs.length * 4 := by rw [hM2, size_madeCells]
  have hM2f : noF M2 = true := by rw [hM2]; exact made_noF (by simp [noF, Value.cells]) (by decide)
  rw [← hM2] at hmk2
  clear hM2
  obtain ⟨g1, hg1⟩ : ∃ g, g = w.heap.size := ⟨_, rfl⟩
  have kg := Blk.newAt w 55 M hg1
  have hb0 := b_alloc (Below.refl w.heap.size w) (.cells M 55)
  have hg1B : w.heap.size ≤ g1 := by omega
  have HG1 := Lib.hid hg1
  go_enter Try.func11, Try.ntmps11
  go_wp2_with fail
  rw [← hg1]
  clear hg1
  go_loopw [16] (fun i wr => ∃ (k : Nat) (cs : Array Value), k ≤ gs.length ∧ i = .int .i64 k ∧ Blk wr g1 55 cs ∧ cs.size = gs.length * 2 ∧ noF cs = true ∧ SqCells cs ∧ Hid (∀ i (_ : i < gs.length), i < k → SqAt wr wr.heap.size cs i (dim3 gs[i].dim) (lineF gs[i])) ∧ Below w.heap.size w wr) (fun i _ => gs.length - (intOf i).toNat)
  case atStart => exact ⟨0, M, Nat.zero_le _, rfl, kg, hMs, hMf, hMq, fun i _ h => absurd h (by omega), hb0⟩
  case round =>
    clear kg hb0 hMs hMf hMq hmk
    obtain ⟨k, cs, hk, rfl, kb, hcs, hnf, hsq, hAt, hb⟩ := hrel
    by_cases hlt : k < gs.length
    · obtain ⟨b, off, A1, c1, A2, c2, rfl, hbl, q0, q1, q2, q3, hgm⟩ := (hA.below hb hb.size).at hlt
      have hgl := hm gs[k] (List.getElem_mem hlt)
      have hbb : b < wr.heap.size := hbl
      have hba := b_alloc (Below.refl wr.heap.size wr) (.cells (gCells gs[k] A1 c1 A2 c2) 26)
      have s1 := line_any gs[k] A1 c1 A2 c2 (by omega) _ (hgm.mov hba hba.size)
      have s2 := fun A c w => coords_any (dim3 gs[k].dim) A (lineF gs[k]).length c w
      have kb1 := kb.alloc (.cells (gCells gs[k] A1 c1 A2 c2) 26)
      have hBa := b_trans hb hba
      have hstep : ∀ (w' : World) cs', (∀ i (_ : i < gs.length), i < k → SqAt w' w'.heap.size cs' i (dim3 gs[i].dim) (lineF gs[i])) → SqAt w' w'.heap.size cs' k (dim3 gs[k].dim) (lineF gs[k]) → ∀ i (_ : i < gs.length), i < k + 1 → SqAt w' w'.heap.size cs' i (dim3 gs[i].dim) (lineF gs[i]) := by
        intro w' cs' h1 h2 i hi hik
        by_cases e : i = k
        · subst e; exact h2
        · exact h1 i hi (by omega)
      have HSTEP := Lib.hid hstep
      unfold SR GV gCells SV at *
      have S1 := Lib.hid s1
      have S2 := Lib.hid s2
      clear s1 s2 hstep hgm
      generalize gs[k] = g0 at *
      generalize dim3 g0.dim = d0 at *
      generalize lineF g0 = l0 at *
      go_wp2_with fail
      refine S1.out.mono ?_
      rintro e w1 ⟨⟨Ar, cr, rfl, hcr, hfr⟩, hb1⟩
      have kb2 := kb1.stay hb1
      have hB1 := b_trans hBa hb1
      go_wp2_with fail
      refine (S2.out _ _ _).mono ?_
      rintro e w2 ⟨rfl, hb2⟩
      have hf2 := hfr.below hb2 hb2.size
      have kb3 := kb2.stay hb2
      have hB2 := b_trans hB1 hb2
      have hsame : Below wr.heap.size wr w2 := b_trans (b_trans hba hb1) hb2
      have fz := kb3.frozen
      obtain ⟨_, _, _, _, v0, v1⟩ := hsq k (by omega)
      rw [← kb3.cell] at v0 v1
      have hof := hf2.off kb3 hnf
      have zg := kb3.lt
      clear S1 S2 q0 q1 q2 q3 hba hBa kb1
      go_wp2_with fail
      go_roundw
      case rel =>
        refine ⟨k + 1, _, by omega, by go_num, (kb3.set_ _ _).set_ _ _, by simpa using hcs, noF_set (noF_set hnf _ (fun _ _ e => by cases e)) _ (fun _ _ e => by cases e), hsq.set _ _ _ _ _, ?_, b_set (b_set hB2 _ hg1B _) _ hg1B _⟩
        refine HSTEP.out _ _ (fun i hi hik => ?_) ?_
        · refine SqAt.setOther ?_ (by omega) _ _
          refine (hAt.out i hi hik).mono fun A hA => ?_
          have h2 := hA.below hsame hsame.size
          have ho := h2.off kb3 hnf
          exact ((h2.set ho _ _).set ho _ _).up (by simp)
        · refine ⟨Ar, cr, ?_, ?_, hcr, ((hf2.set hof _ _).set hof _ _).up (by simp)⟩
          · rw [set_at, if_neg (by omega), set_at, if_pos rfl, if_pos (by omega)]
          · rw [set_at, if_pos rfl, if_pos (by simp; omega)]
      case measure => simp [intOf]; omega
    · obtain rfl : k = gs.length := by omega
      have hrot := door_rotate_any g1 55 cs gs.length r (by omega) (by omega) hr hsq wr kb
      have HROT := Lib.hid hrot
      clear hrot hlt
      go_wp2_with fail
      refine HROT.out.mono ?_
      rintro e w1 ⟨rfl, hgr, cs1, kb1, hs1, hp1⟩
      have hB1 : Below w.heap.size w w1 := b_grown hb hgr hb.size (fun k hk => by cases hk; exact hg1B)
      have hnf1 : noF cs1 = true := by
        refine noF_of fun j q x => ?_
        by_cases hj : j < gs.length * 2
        · have hrl := rt_lt hr (show j / 2 < gs.length by omega)
          have h1 := hp1 (j / 2) (by omega) (j % 2) (by omega)
          rw [show j / 2 * 2 + j % 2 = j by omega] at h1
          rw [h1]
          exact noF_at hnf
        · rw [Array.getElem?_eq_none (by omega)]; simp
      have hAt1 : ∀ i (_ : i < gs.length), SqAt w1 w1.heap.size cs1 i (dim3 (gs.getD (rt gs.length r i) noG).dim) (lineF (gs.getD (rt gs.length r i) noG)) := by
        intro i hi
        have hrl := rt_lt hr hi
        have h1 := hAt.out _ hrl hrl
        rw [List.getD_eq_getElem?_getD, List.getElem?_eq_getElem hrl]
        refine SqAt.cellsEq (i := rt gs.length r i) ?_ (fun q hq => hp1 i hi q hq)
        refine h1.mono fun A hA => ?_
        have ho := hA.off kb hnf
        exact (hA.grown ho hgr (Nat.le_refl _)).up hgr.size
      have hs1' : cs1.size = gs.length * 2 := by omega
      obtain ⟨D, hD⟩ : ∃ D : Nat → G, D = fun i => gs.getD (rt gs.length r i) noG := ⟨_, rfl⟩
      have hDlen : ∀ i, (D i).nums.length ≤ 10000 := by
        intro i
        rw [hD]
        show (gs.getD _ _).nums.length ≤ _
        rw [List.getD_eq_getElem?_getD]
        by_cases hi : rt gs.length r i < gs.length
        · rw [List.getElem?_eq_getElem hi]; exact hm _ (List.getElem_mem hi)
        · rw [List.getElem?_eq_none (by omega)]; exact Nat.zero_le _
      have hAt2 : ∀ i (_ : i < gs.length), SqAt w1 w1.heap.size cs1 i (dim3 (D i).dim) (lineF (D i)) := by
        intro i hi; rw [hD]; exact hAt1 i hi
      have hOut : rotOut gs r = (List.range gs.length).map fun i => outG (D i) := by rw [hD]; rfl
      have HOUT := Lib.hid hOut
      have HAT := Lib.hid hAt2
      clear hAt1 hAt2 hOut hD hp1 hAt hgr hb HROT kb hnf hsq hcs hm hA
      obtain ⟨g2, hg2⟩ : ∃ g, g = w1.heap.size := ⟨_, rfl⟩
      have ko := Blk.newAt w1 26 M2 hg2
      have kb2 := kb1.alloc (.cells M2 26)
      have hba := b_alloc (Below.refl w1.heap.size w1) (.cells M2 26)
      have hB2 := b_trans hB1 hba
      have hg2B : w.heap.size ≤ g2 := by have := hB1.size; omega
      have zg1 := kb1.lt
      have hgne : g1 < g2 := by omega
      have HG2 := Lib.hid hg2
      go_wp2_with fail
      rw [← hg2]
      clear hg2
      go_loopw [36] (fun i wr => ∃ (k : Nat) (co : Array Value), k ≤ gs.length ∧ i = .int .i64 k ∧ Blk wr g2 26 co ∧ co.size = gs.length * 4 ∧ noF co = true ∧ Blk wr g1 55 cs1 ∧ Hid (∀ i (_ : i < gs.length), SqAt wr wr.heap.size cs1 i (dim3 (D i).dim) (lineF (D i))) ∧ Hid (∀ i (_ : i < gs.length), i < k → OutAt wr wr.heap.size co i (outG (D i))) ∧ Below w.heap.size w wr) (fun i _ => gs.length - (intOf i).toNat)
      case atStart =>
        refine ⟨0, M2, Nat.zero_le _, rfl, ko, hM2s, hM2f, kb2, fun i hi => (HAT.out i hi).mono fun A hA => hA.below hba hba.size, fun i _ h => absurd h (by omega), hB2⟩
      case round =>
        clear ko kb2 hba hB2 hM2s hM2f HAT kb1 hB1
        obtain ⟨k, co, hk, rfl, ko, hco, hnf, kb, hSq, hOt, hb⟩ := hrel
        by_cases hlt : k < gs.length
        · obtain ⟨Ak, ck, q0, q1, hck, hfk⟩ := hSq.out k hlt
          have hkb := kb.lt
          rw [← kb.cell] at q0 q1
          have hba := b_alloc (Below.refl wr.heap.size wr) (.cells #[.int .u8 (dim3 (D k).dim), .slice Ak (lineF (D k)).length ck] 55)
          have s1 := plainseq_any (dim3 (D k).dim) (dim3_lt _) (lineF (D k)) Ak ck (by have := lineF_len (D k); have := hDlen k; omega) _ (hfk.below hba hba.size)
          have ko1 := ko.alloc (.cells #[.int .u8 (dim3 (D k).dim), .slice Ak (lineF (D k)).length ck] 55)
          have kb1 := kb.alloc (.cells #[.int .u8 (dim3 (D k).dim), .slice Ak (lineF (D k)).length ck] 55)
          have hBa := b_trans hb hba
          have hstep : ∀ (w' : World) co', (∀ i (_ : i < gs.length), i < k → OutAt w' w'.heap.size co' i (outG (D i))) → OutAt w' w'.heap.size co' k (outG (D k)) → ∀ i (_ : i < gs.length), i < k + 1 → OutAt w' w'.heap.size co' i (outG (D i)) := by
            intro w' co' h1 h2 i hi hik
            by_cases e : i = k
            · subst e; exact h2
            · exact h1 i hi (by omega)
          have hog : outG (D k) = .mk 2 (dim3 (D k).dim) (numsF (dim3 (D k).dim) (placesF (dim3 (D k).dim) (lineF (D k)))) [] := rfl
          rw [← hog] at s1
          have hgk : (outG (D k)).kind = 2 := rfl
          have hgd : (outG (D k)).dim = (dim3 (D k).dim : Int) := rfl
          have hgK : (outG (D k)).kids = [] := rfl
          have HSTEP := Lib.hid hstep
          unfold GR GV gCells SV at *
          rw [hgk, hgd, hgK] at s1
          have HK1 := Lib.hid hgk
          have HK2 := Lib.hid hgd
          have HK3 := Lib.hid hgK
          have S1 := Lib.hid s1
          clear s1 hstep hog hgk hgd hgK hfk
          generalize outG (D k) = og at *
          generalize dim3 (D k).dim = d0 at *
          generalize lineF (D k) = l0 at *
          go_wp2_with fail
          refine S1.out.mono ?_
          rintro e w2 ⟨⟨A1, c1, A2, c2, rfl, hgm⟩, hb1⟩
          obtain ⟨p1, p2, p3, _⟩ := hgm.parts
          have ko2 := ko1.stay hb1
          have kb2 := kb1.stay hb1
          have hB2 := b_trans hBa hb1
          have hsame : Below wr.heap.size wr w2 := b_trans hba hb1
          have fz := ko2.frozen
          obtain ⟨v0, hv0⟩ := some_at (cs := co) (i := k * 4) (by omega)
          obtain ⟨v1, hv1⟩ := some_at (cs := co) (i := k * 4 + 1) (by omega)
          obtain ⟨v2, hv2⟩ := some_at (cs := co) (i := k * 4 + 2) (by omega)
          obtain ⟨v3, hv3⟩ := some_at (cs := co) (i := k * 4 + 3) (by omega)
          rw [← ko2.cell] at hv0 hv1 hv2 hv3
          have hof := p1.off ko2 hnf
          have zo := ko2.lt
          clear S1 q0 q1 hba hBa ko1 kb1 hgm
          rw [HK3.out] at p3
          simp only [List.length_nil, c0] at p3
          go_wp2_with fail
          go_roundw
          case rel =>
            refine ⟨k + 1, set4 co k (.int .i64 2) (.int .i64 d0) (.slice A1 og.nums.length c1) (.slice A2 0 c2), by omega, by go_num, (((ko2.set_ _ _).set_ _ _).set_ _ _).set_ _ _, by simpa [set4] using hco, ?_, ?_, fun i hi => ?_, ?_, b_set (b_set (b_set (b_set hB2 _ hg2B _) _ hg2B _) _ hg2B _) _ hg2B _⟩
            · unfold set4
              exact noF_set (noF_set (noF_set (noF_set hnf _ (fun _ _ e => by cases e)) _ (fun _ _ e => by cases e)) _ (fun _ _ e => by cases e)) _ (fun _ _ e => by cases e)
            · exact (((kb2.far (by dsimp only; omega) _).far (by dsimp only; omega) _).far (by dsimp only; omega) _).far (by dsimp only; omega) _
            · refine (hSq.out i hi).mono fun A hA => ?_
              have h2 := hA.below hsame hsame.size
              have ho := h2.off ko2 hnf
              exact ((((h2.set ho _ _).set ho _ _).set ho _ _).set ho _ _).up (by simp)
            · refine HSTEP.out _ _ (fun i hi hik => ?_) ?_
              · refine OutAt.setOther ?_ (by omega) _ _ _ _
                refine (hOt.out i hi hik).mono fun A hA => ?_
                have h2 := hA.below hsame hsame.size
                have ho := h2.off ko2 hnf
                exact ((((h2.set ho _ _).set ho _ _).set ho _ _).set ho _ _).up (by simp)
              · have h9 := OutAt.new (w := (((w2.setCell ⟨g2, k * 4, none⟩ (.int .i64 2)).setCell ⟨g2, k * 4 + 1, none⟩ (.int .i64 d0)).setCell ⟨g2, k * 4 + 2, none⟩ (.slice A1 og.nums.length c1)).setCell ⟨g2, k * 4 + 3, none⟩ (.slice A2 0 c2)) (B := w2.heap.size) (cs := co) (k := k) (g := og) (A1 := A1) (c1 := c1) (A2 := A2) (c2 := c2) (by omega) p2 (by rw [HK3.out]; exact p3) ((((p1.set hof _ _).set hof _ _).set hof _ _).set hof _ _)
                rw [HK1.out, HK2.out, HK3.out] at h9
                exact h9.mono fun A hA => hA.up (by simp)
          case measure => simp [intOf]; omega
        · obtain rfl : k = gs.length := by omega
          clear hlt
          go_wp2_with fail
          go_ret
          refine ⟨⟨some ⟨g2, 0, none⟩, gs.length, ?_, ?_, ?_⟩, hb⟩
          · rw [rotOut_length]; rfl
          · rw [rotOut_length]; exact Nat.le_refl _
          · refine gs_of_out ko ?_ ?_
            · intro x hx
              rw [HOUT.out] at hx
              obtain ⟨i, _, rfl⟩ := List.mem_map.1 hx
              rfl
            · intro i hi
              have hi' : i < gs.length := by rwa [rotOut_length] at hi
              have e9 : (rotOut gs r)[i] = outG (D i) := by simp [HOUT.out]
              rw [e9]
              exact hOt.out i hi' hi'
end Geo
end Go.Proofs.Ytllomldpbkeioaa
