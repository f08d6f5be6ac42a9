/- Geometries in memory, and which blocks they lie in; rows of geometries that grow. -/
import Derived.Test.YtllomldpbkeioaaG0
import Derived.Test.YtllomldpbkeioaaApp
namespace Go.Proofs.Ytllomldpbkeioaa
open Go.RowKit
namespace Geo
theorem cell_of {w : World} {b i : Nat} {t : TypeId} {cs : Array Value} {v : Value} (h : Blk w b t cs) (e : cs[i]? = some v) : w.cell? ⟨b, i, none⟩ = some v := (h.cell i).trans e
/-- the blocks of a call's own making -/
def Fr (lo : Nat) (w : World) (b : Nat) : Prop := lo ≤ b ∧ b < w.heap.size
/-- the same, but for a row's own block -/
def Av (lo : Nat) (w : World) (v : Value) (b : Nat) : Prop := lo ≤ b ∧ b < w.heap.size ∧ some b ≠ v.ownBlock
def FX (w : World) (ok : Nat → Prop) (A : Option Addr) (ns : List Nat) : Prop :=
  ns ≠ [] → ∃ b off, A = some ⟨b, off, none⟩ ∧ ok b ∧ ∀ i (_ : i < ns.length), w.cell? ⟨b, off + i, none⟩ = some (.float .f64 ns[i])
theorem FX.nil (w : World) (ok : Nat → Prop) (A : Option Addr) : FX w ok A [] := fun h => absurd rfl h
theorem FX.fs {w : World} {ok : Nat → Prop} {A : Option Addr} {ns : List Nat} (h : FX w ok A ns) {B : Nat} (hB : ∀ b, ok b → b < B) : Fs w B A ns := fun hne => by
  obtain ⟨b, off, e, hb, hc⟩ := h hne
  exact ⟨b, off, e, hB b hb, hc⟩
theorem FX.mov {w w' : World} {ok ok' : Nat → Prop} {A : Option Addr} {ns : List Nat} (h : FX w ok A ns) (hk : ∀ b, ok b → ok' b) (hb : ∀ b, ok b → w'.heap[b]? = w.heap[b]?) : FX w' ok' A ns := fun hne => by
  obtain ⟨b, off, e, hbk, hc⟩ := h hne
  refine ⟨b, off, e, hk b hbk, fun i hi => ?_⟩
  rw [World.cell?_of_block (a := ⟨b, off + i, none⟩) (hb b hbk)]
  exact hc i hi
inductive GX (w : World) (ok : Nat → Prop) : G → Option Addr → Nat → Option Addr → Nat → Prop
  | mk {k d : Int} {ns : List Nat} {kids : List G} {A : Option Addr} {c : Nat} {A' : Option Addr} {c' : Nat} {b off : Nat} {fA : Nat → Option Addr} {fc : Nat → Nat} {fA' : Nat → Option Addr} {fc' : Nat → Nat}
      (hn : FX w ok A ns) (hc : ns.length ≤ c) (hc' : kids.length ≤ c') (hA : kids ≠ [] → A' = some ⟨b, off, none⟩ ∧ ok b)
      (hcell : ∀ i (_ : i < kids.length), ∀ j, j < 4 → w.cell? ⟨b, off + i * 4 + j, none⟩ = (gCells kids[i] (fA i) (fc i) (fA' i) (fc' i))[j]?)
      (hkid : ∀ i (_ : i < kids.length), GX w ok kids[i] (fA i) (fc i) (fA' i) (fc' i)) : GX w ok (.mk k d ns kids) A c A' c'
def GsX (w : World) (ok : Nat → Prop) (A : Option Addr) (gs : List G) : Prop :=
  gs ≠ [] → ∃ b off, A = some ⟨b, off, none⟩ ∧ ok b ∧ ∀ i (_ : i < gs.length), ∃ A1 c1 A2 c2, (∀ j, j < 4 → w.cell? ⟨b, off + i * 4 + j, none⟩ = (gCells gs[i] A1 c1 A2 c2)[j]?) ∧ GX w ok gs[i] A1 c1 A2 c2
theorem GsX.nil (w : World) (ok : Nat → Prop) (A : Option Addr) : GsX w ok A [] := fun h => absurd rfl h
theorem GX.parts {w : World} {ok : Nat → Prop} {g : G} {A : Option Addr} {c : Nat} {A' : Option Addr} {c' : Nat} (h : GX w ok g A c A' c') : FX w ok A g.nums ∧ g.nums.length ≤ c ∧ g.kids.length ≤ c' ∧ GsX w ok A' g.kids := by
  cases h with
  | mk hn hc hc' hA hcell hkid =>
    refine ⟨hn, hc, hc', fun hne => ?_⟩
    obtain ⟨e, hb⟩ := hA hne
    exact ⟨_, _, e, hb, fun i hi => ⟨_, _, _, _, hcell i hi, hkid i hi⟩⟩
theorem GX.of {w : World} {ok : Nat → Prop} {k d : Int} {ns : List Nat} {kids : List G} {A : Option Addr} {c : Nat} {A' : Option Addr} {c' : Nat} (hn : FX w ok A ns) (hc : ns.length ≤ c) (hc' : kids.length ≤ c') (hk : GsX w ok A' kids) : GX w ok (.mk k d ns kids) A c A' c' := by
  by_cases hne : kids = []
  · subst hne
    exact .mk (b := 0) (off := 0) (fA := fun _ => none) (fc := fun _ => 0) (fA' := fun _ => none) (fc' := fun _ => 0) hn hc hc' (fun h => absurd rfl h) (fun i hi => absurd hi (by simp)) (fun i hi => absurd hi (by simp))
  · obtain ⟨b, off, e, hb, hall⟩ := hk hne
    have key : ∃ f : Nat → Option Addr × Nat × Option Addr × Nat, ∀ i (_ : i < kids.length), (∀ j, j < 4 → w.cell? ⟨b, off + i * 4 + j, none⟩ = (gCells kids[i] (f i).1 (f i).2.1 (f i).2.2.1 (f i).2.2.2)[j]?) ∧ GX w ok kids[i] (f i).1 (f i).2.1 (f i).2.2.1 (f i).2.2.2 := by
      have h1 : ∀ i, ∃ q : Option Addr × Nat × Option Addr × Nat, ∀ _ : i < kids.length, (∀ j, j < 4 → w.cell? ⟨b, off + i * 4 + j, none⟩ = (gCells kids[i] q.1 q.2.1 q.2.2.1 q.2.2.2)[j]?) ∧ GX w ok kids[i] q.1 q.2.1 q.2.2.1 q.2.2.2 := by
        intro i
        by_cases hi : i < kids.length
        · obtain ⟨A1, c1, A2, c2, h⟩ := hall i hi
          exact ⟨(A1, c1, A2, c2), fun _ => h⟩
        · exact ⟨(none, 0, none, 0), fun h => absurd h hi⟩
      exact ⟨fun i => Classical.choose (h1 i), fun i hi => Classical.choose_spec (h1 i) hi⟩
    obtain ⟨f, hf⟩ := key
    exact .mk (b := b) (off := off) (fA := fun i => (f i).1) (fc := fun i => (f i).2.1) (fA' := fun i => (f i).2.2.1) (fc' := fun i => (f i).2.2.2) hn hc hc' (fun _ => ⟨e, hb⟩) (fun i hi => (hf i hi).1) (fun i hi => (hf i hi).2)
theorem GX.mov {w w' : World} {ok ok' : Nat → Prop} (hk : ∀ b, ok b → ok' b) (hb : ∀ b, ok b → w'.heap[b]? = w.heap[b]?) {g : G} {A : Option Addr} {c : Nat} {A' : Option Addr} {c' : Nat} (h : GX w ok g A c A' c') : GX w' ok' g A c A' c' := by
  induction h with
  | @mk k d ns kids A c A' c' b off fA fc fA' fc' hn hc hc' hA hcell _ ih =>
    refine .mk (hn.mov hk hb) hc hc' (fun hne => ⟨(hA hne).1, hk _ (hA hne).2⟩) (fun i hi j hj => ?_) ih
    have hne : kids ≠ [] := fun e => absurd hi (by rw [e]; simp)
    rw [World.cell?_of_block (a := ⟨b, _, none⟩) (hb b (hA hne).2)]
    exact hcell i hi j hj
theorem GX.gm {w : World} {ok : Nat → Prop} {B : Nat} (hB : ∀ b, ok b → b < B) {g : G} {A : Option Addr} {c : Nat} {A' : Option Addr} {c' : Nat} (h : GX w ok g A c A' c') : GM w B g A c A' c' := by
  induction h with
  | @mk k d ns kids A c A' c' b off fA fc fA' fc' hn hc hc' hA hcell _ ih =>
    exact .mk (hn.fs hB) hc hc' (fun hne => ⟨(hA hne).1, hB _ (hA hne).2⟩) hcell ih
theorem GsX.mov {w w' : World} {ok ok' : Nat → Prop} (hk : ∀ b, ok b → ok' b) (hb : ∀ b, ok b → w'.heap[b]? = w.heap[b]?) {A : Option Addr} {gs : List G} (h : GsX w ok A gs) : GsX w' ok' A gs := fun hne => by
  obtain ⟨b, off, e, hbk, hall⟩ := h hne
  refine ⟨b, off, e, hk b hbk, fun i hi => ?_⟩
  obtain ⟨A1, c1, A2, c2, h1, h2⟩ := hall i hi
  exact ⟨A1, c1, A2, c2, fun j hj => by rw [World.cell?_of_block (a := ⟨b, _, none⟩) (hb b hbk)]; exact h1 j hj, h2.mov hk hb⟩
theorem GsX.gs {w : World} {ok : Nat → Prop} {B : Nat} (hB : ∀ b, ok b → b < B) {A : Option Addr} {gs : List G} (h : GsX w ok A gs) : Gs w B A gs := fun hne => by
  obtain ⟨b, off, e, hbk, hall⟩ := h hne
  refine ⟨b, off, e, hB b hbk, fun i hi => ?_⟩
  obtain ⟨A1, c1, A2, c2, h1, h2⟩ := hall i hi
  exact ⟨A1, c1, A2, c2, h1, h2.gm hB⟩
theorem Fr.lt {lo : Nat} {w : World} : ∀ b, Fr lo w b → b < w.heap.size := fun _ h => h.2
/-- through a call that leaves all blocks as they are -/
theorem FX.stay {w w' : World} {lo : Nat} {A : Option Addr} {ns : List Nat} (h : FX w (Fr lo w) A ns) (hb : Below w.heap.size w w') : FX w' (Fr lo w') A ns :=
  h.mov (fun _ h => ⟨h.1, Nat.lt_of_lt_of_le h.2 hb.size⟩) fun b h => hb.block b h.2
theorem GX.stay {w w' : World} {lo : Nat} {g : G} {A : Option Addr} {c : Nat} {A' : Option Addr} {c' : Nat} (h : GX w (Fr lo w) g A c A' c') (hb : Below w.heap.size w w') : GX w' (Fr lo w') g A c A' c' :=
  h.mov (fun _ h => ⟨h.1, Nat.lt_of_lt_of_le h.2 hb.size⟩) fun b h => hb.block b h.2
/-- and through a store below -/
theorem FX.setBelow {w : World} {lo : Nat} {A : Option Addr} {ns : List Nat} (h : FX w (Fr lo w) A ns) {p : Addr} (hp : p.block < lo) (u : Value) : FX (w.setCell p u) (Fr lo (w.setCell p u)) A ns :=
  h.mov (fun _ h => ⟨h.1, by simpa using h.2⟩) fun b h => Below.heap_setCell w p u b (by have := h.1; omega)
theorem GX.setBelow {w : World} {lo : Nat} {g : G} {A : Option Addr} {c : Nat} {A' : Option Addr} {c' : Nat} (h : GX w (Fr lo w) g A c A' c') {p : Addr} (hp : p.block < lo) (u : Value) : GX (w.setCell p u) (Fr lo (w.setCell p u)) g A c A' c' :=
  h.mov (fun _ h => ⟨h.1, by simpa using h.2⟩) fun b h => Below.heap_setCell w p u b (by have := h.1; omega)
theorem GsX.stay {w w' : World} {lo : Nat} {A : Option Addr} {gs : List G} (h : GsX w (Fr lo w) A gs) (hb : Below w.heap.size w w') : GsX w' (Fr lo w') A gs :=
  h.mov (fun _ h => ⟨h.1, Nat.lt_of_lt_of_le h.2 hb.size⟩) fun b h => hb.block b h.2
theorem GsX.setBelow {w : World} {lo : Nat} {A : Option Addr} {gs : List G} (h : GsX w (Fr lo w) A gs) {p : Addr} (hp : p.block < lo) (u : Value) : GsX (w.setCell p u) (Fr lo (w.setCell p u)) A gs :=
  h.mov (fun _ h => ⟨h.1, by simpa using h.2⟩) fun b h => Below.heap_setCell w p u b (by have := h.1; omega)
theorem GsX.up {w : World} {lo lo' : Nat} {A : Option Addr} {gs : List G} (h : GsX w (Fr lo w) A gs) (hl : lo' ≤ lo) : GsX w (Fr lo' w) A gs := h.mov (fun _ h => ⟨Nat.le_trans hl h.1, h.2⟩) fun _ _ => rfl
theorem FX.up {w : World} {lo lo' : Nat} {A : Option Addr} {ns : List Nat} (h : FX w (Fr lo w) A ns) (hl : lo' ≤ lo) : FX w (Fr lo' w) A ns := h.mov (fun _ h => ⟨Nat.le_trans hl h.1, h.2⟩) fun _ _ => rfl
theorem GX.up {w : World} {lo lo' : Nat} {g : G} {A : Option Addr} {c : Nat} {A' : Option Addr} {c' : Nat} (h : GX w (Fr lo w) g A c A' c') (hl : lo' ≤ lo) : GX w (Fr lo' w) g A c A' c' := h.mov (fun _ h => ⟨Nat.le_trans hl h.1, h.2⟩) fun _ _ => rfl
/-! ### results -/
def GRz (lo : Nat) (g : G) (r : Ending) (w' : World) : Prop := ∃ A c A' c', r = .returned (GV g A c A' c') ∧ GX w' (Fr lo w') g A c A' c'
def FRz (lo : Nat) (ns : List Nat) (r : Ending) (w' : World) : Prop := ∃ A c, r = .returned (.slice A ns.length c) ∧ ns.length ≤ c ∧ FX w' (Fr lo w') A ns
/-! ### rows that grow -/
structure Q4 where
  g : G
  A : Option Addr
  c : Nat
  A' : Option Addr
  c' : Nat
def Q4.cells (q : Q4) : List Value := (gCells q.g q.A q.c q.A' q.c').toList
def q4s (L : List Q4) : List Value := L.flatMap Q4.cells
theorem q4s_length (L : List Q4) : (q4s L).length = L.length * 4 := by
  unfold q4s
  induction L with
  | nil => rfl
  | cons q L ih => rw [List.flatMap_cons, List.length_append, ih, List.length_cons, Nat.succ_mul, Nat.add_comm]; rfl
theorem q4s_get (L : List Q4) : ∀ (i : Nat) (h : i < L.length) (r : Nat), r < 4 → (q4s L)[i * 4 + r]? = (gCells L[i].g L[i].A L[i].c L[i].A' L[i].c')[r]? := by
  induction L with
  | nil => intro i h; simp at h
  | cons q L ih =>
    intro i h r hr
    unfold q4s at *
    rw [List.flatMap_cons]
    cases i with
    | zero =>
      rw [List.getElem?_append_left (by show _ < 4; omega)]
      simp [Q4.cells]
    | succ i =>
      have h' : i < L.length := by simpa using h
      rw [List.getElem?_append_right (by show 4 ≤ _; omega), List.getElem_cons_succ, ← ih i h' r hr]
      congr 1
      show (i + 1) * 4 + r - 4 = _
      omega
/-- a row of geometries of one's own, which lie apart from it -/
def OwnGs (w : World) (B : Nat) (e : TypeId) (v : Value) (gs : List G) : Prop :=
  ∃ L : List Q4, L.map (·.g) = gs ∧ w.ownsRow B e 4 v L.length (q4s L) ∧ ∀ q ∈ L, GX w (Av B w v) q.g q.A q.c q.A' q.c'
theorem OwnGs.nil (w : World) (B : Nat) (e : TypeId) : OwnGs w B e (.slice none 0 0) [] := ⟨[], rfl, World.ownsRow_nil _ _ _ _, fun q h => by cases h⟩
theorem OwnGs.below {w w' : World} {B : Nat} {e : TypeId} {v : Value} {gs : List G} (h : OwnGs w B e v gs) (hb : Below w.heap.size w w') : OwnGs w' B e v gs := by
  obtain ⟨L, h1, h2, h3⟩ := h
  exact ⟨L, h1, own_below h2 hb, fun q hq => (h3 q hq).mov (fun _ h => ⟨h.1, Nat.lt_of_lt_of_le h.2.1 hb.size, h.2.2⟩) fun b h => hb.block b h.2.1⟩
theorem OwnGs.set {w : World} {B : Nat} {e : TypeId} {v : Value} {gs : List G} (h : OwnGs w B e v gs) {p : Addr} (hp : p.block < B) (u : Value) : OwnGs (w.setCell p u) B e v gs := by
  obtain ⟨L, h1, h2, h3⟩ := h
  exact ⟨L, h1, own_set h2 (own_far h2 hp) u, fun q hq => (h3 q hq).mov (fun _ h => ⟨h.1, by simpa using h.2.1, h.2.2⟩) fun b h => Below.heap_setCell w p u b (by have := h.1; omega)⟩
theorem OwnGs.alloc {w : World} {B : Nat} {e : TypeId} {v : Value} {gs : List G} (h : OwnGs w B e v gs) (o : Obj) : OwnGs (w.alloc o) B e v gs := h.below (b_alloc (Below.refl _ _) _)
theorem OwnGs.drew {w : World} {B : Nat} {e : TypeId} {v : Value} {gs : List G} (h : OwnGs w B e v gs) : OwnGs w.drew B e v gs := h.below (b_drew (Below.refl _ _))
theorem Av.grown {w w' : World} {B : Nat} {A A' : Option Addr} {n n' c c' : Nat} (hg : w.grownBy w' (Value.ownBlock (.slice A n c))) (hnew : A' = A ∨ A' = some ⟨w.heap.size, 0, none⟩) {b : Nat} (h : Av B w (.slice A n c) b) : Av B w' (.slice A' n' c') b ∧ w'.heap[b]? = w.heap[b]? := by
  refine ⟨⟨h.1, Nat.lt_of_lt_of_le h.2.1 hg.size, ?_⟩, hg.block b h.2.1 h.2.2⟩
  rcases hnew with rfl | rfl
  · intro e
    refine h.2.2 (e.trans ?_)
    cases A' <;> rfl
  · intro e
    simp [Value.ownBlock] at e
    have := h.2.1
    omega
theorem OwnGs.step {w w' : World} {B : Nat} {e : TypeId} {A A' : Option Addr} {n c c' : Nat} {gs : List G} {L : List Q4} (h1 : L.map (·.g) = gs) (h3 : ∀ q ∈ L, GX w (Av B w (.slice A n c)) q.g q.A q.c q.A' q.c') (q : Q4)
    (hown : w'.ownsRow B e 4 (.slice A' (n + 1) c') (n + 1) (q4s L ++ q.cells)) (hn : n = L.length) (hg : w.grownBy w' (Value.ownBlock (.slice A n c))) (hnew : A' = A ∨ A' = some ⟨w.heap.size, 0, none⟩) (hq : GX w (Av B w (.slice A n c)) q.g q.A q.c q.A' q.c') :
    OwnGs w' B e (.slice A' (n + 1) c') (gs ++ [q.g]) := by
  refine ⟨L ++ [q], by simp [h1], ?_, fun x hx => ?_⟩
  · have : q4s (L ++ [q]) = q4s L ++ q.cells := by unfold q4s; simp
    rw [this, List.length_append, ← hn]
    exact hown
  · have hx' : GX w (Av B w (.slice A n c)) x.g x.A x.c x.A' x.c' := by
      rcases List.mem_append.1 hx with h | h
      · exact h3 x h
      · simp at h; subst h; exact hq
    exact hx'.mov (fun b hb => (Av.grown hg hnew hb).1) fun b hb => (Av.grown (n' := n + 1) (c' := c') hg hnew hb).2
theorem OwnGs.gs {w : World} {B : Nat} {e : TypeId} {A : Option Addr} {n c : Nat} {gs : List G} (h : OwnGs w B e (.slice A n c) gs) : gs.length ≤ c ∧ n = gs.length ∧ GsX w (Fr B w) A gs := by
  obtain ⟨L, h1, h2, h3⟩ := h
  have hl : gs.length = L.length := by rw [← h1, List.length_map]
  obtain ⟨A1, c1, e1, hc1⟩ := own_shape h2
  simp at e1
  obtain ⟨rfl, rfl, rfl⟩ := e1
  refine ⟨by omega, by omega, fun hne => ?_⟩
  have hLne : L ≠ [] := by rintro rfl; exact hne h1.symm
  obtain ⟨b, rfl, hlt, hB, hcell⟩ := own_lies h2 (by
    intro e
    have := q4s_length L
    rw [e] at this
    simp at this
    exact hLne (List.eq_nil_of_length_eq_zero (by omega)))
  refine ⟨b, 0, rfl, ⟨hB, hlt⟩, fun i hi => ?_⟩
  have hi' : i < L.length := by omega
  have hg : gs[i] = L[i].g := by simp [← h1]
  refine ⟨L[i].A, L[i].c, L[i].A', L[i].c', fun j hj => ?_, ?_⟩
  · have hlen := q4s_length L
    rw [Nat.zero_add, hg, ← q4s_get L i hi' j hj, hcell (i * 4 + j) (by omega), List.getElem?_eq_getElem]
  · rw [hg]
    exact (h3 _ (List.getElem_mem hi')).mov (fun _ h => ⟨h.1, h.2.1⟩) fun _ _ => rfl
theorem OwnGs.row {w : World} {B : Nat} {e : TypeId} {A : Option Addr} {n c : Nat} {gs : List G} (h : OwnGs w B e (.slice A n c) gs) :
    ∃ L : List Q4, L.map (·.g) = gs ∧ w.ownsRow B e 4 (.slice A n c) n (q4s L) ∧ (∀ q ∈ L, GX w (Av B w (.slice A n c)) q.g q.A q.c q.A' q.c') ∧ L.length = n := by
  have hn := h.gs.2.1
  obtain ⟨L, h1, h2, h3⟩ := h
  have hl : L.length = n := by rw [hn, ← h1, List.length_map]
  rw [hl] at h2
  exact ⟨L, h1, h2, h3, hl⟩
end Geo
end Go.Proofs.Ytllomldpbkeioaa
