/- Geometries as plain data, and where they lie in memory. -/
import Derived.Test.YtllomldpbkeioaaBase
import Derived.Laws.OwnMore
import Derived.Deep.AppendLies
namespace Go.Proofs.Ytllomldpbkeioaa
open Go.RowKit
namespace Geo
inductive G where
  | mk (kind dim : Int) (nums : List Nat) (kids : List G)
def G.kind : G → Int | .mk k _ _ _ => k
def G.dim : G → Int | .mk _ d _ _ => d
def G.nums : G → List Nat | .mk _ _ n _ => n
def G.kids : G → List G | .mk _ _ _ k => k
theorem G.eta (g : G) : g = .mk g.kind g.dim g.nums g.kids := by cases g; rfl
mutual
theorem G.ind1 {P : G → Prop} (h : ∀ k d ns kids, (∀ x ∈ kids, P x) → P (.mk k d ns kids)) : ∀ g, P g
  | .mk k d ns kids => h k d ns kids (G.ind2 h kids)
theorem G.ind2 {P : G → Prop} (h : ∀ k d ns kids, (∀ x ∈ kids, P x) → P (.mk k d ns kids)) : ∀ (l : List G), ∀ x ∈ l, P x
  | [] => fun x hx => by cases hx
  | g :: l => fun x hx => by
    rcases List.mem_cons.1 hx with e | e
    · exact e ▸ G.ind1 h g
    · exact G.ind2 h l x e
end
@[elab_as_elim] theorem G.ind {P : G → Prop} (g : G) (h : ∀ k d ns kids, (∀ x ∈ kids, P x) → P (.mk k d ns kids)) : P g := G.ind1 h g
/-! ### numbers and places -/
def wd (d : Nat) : Nat := 2 + d % 2 + d / 2 % 2
structure P4 where
  x : Nat
  y : Nat
  z : Nat
  m : Nat
def placeAt (d : Nat) (ns : List Nat) (i : Nat) : P4 :=
  ⟨ns.getD (i * wd d) 0, ns.getD (i * wd d + 1) 0, if d % 2 = 1 then ns.getD (i * wd d + 2) 0 else 0, if d / 2 % 2 = 1 then ns.getD (i * wd d + (wd d - 1)) 0 else 0⟩
def placesN (d : Nat) (ns : List Nat) (k : Nat) : List P4 := (List.range k).map (placeAt d ns)
def placesF (d : Nat) (ns : List Nat) : List P4 := placesN d ns (ns.length / wd d)
def numsOf (d : Nat) (p : P4) : List Nat := [p.x, p.y] ++ ((if d % 2 = 1 then [p.z] else []) ++ (if d / 2 % 2 = 1 then [p.m] else []))
def numsF (d : Nat) (ps : List P4) : List Nat := ps.flatMap (numsOf d)
def mask (d : Nat) (p : P4) : P4 := ⟨p.x, p.y, if d % 2 = 1 then p.z else 0, if d / 2 % 2 = 1 then p.m else 0⟩
theorem wd_pos (d : Nat) : 0 < wd d := by unfold wd; omega
theorem wd_le (d : Nat) : 2 ≤ wd d ∧ wd d ≤ 4 := by unfold wd; omega
theorem four {d : Nat} (h : d < 4) : d = 0 ∨ d = 1 ∨ d = 2 ∨ d = 3 := by omega
theorem numsOf_length {d : Nat} (hd : d < 4) (p : P4) : (numsOf d p).length = wd d := by
  rcases four hd with rfl | rfl | rfl | rfl <;> rfl
theorem numsF_length {d : Nat} (hd : d < 4) (ps : List P4) : (numsF d ps).length = ps.length * wd d := by
  unfold numsF
  induction ps with
  | nil => simp
  | cons p ps ih => rw [List.flatMap_cons, List.length_append, ih, numsOf_length hd, List.length_cons, Nat.succ_mul, Nat.add_comm]
theorem numsF_append (d : Nat) (ps qs : List P4) : numsF d (ps ++ qs) = numsF d ps ++ numsF d qs := by unfold numsF; rw [List.flatMap_append]
theorem numsF_one (d : Nat) (p : P4) : numsF d [p] = numsOf d p := by unfold numsF; simp
theorem placesN_succ (d : Nat) (ns : List Nat) (k : Nat) : placesN d ns (k + 1) = placesN d ns k ++ [placeAt d ns k] := by
  unfold placesN; rw [List.range_succ, List.map_append]; rfl
theorem placesN_length (d : Nat) (ns : List Nat) (k : Nat) : (placesN d ns k).length = k := by simp [placesN]
theorem getD_in' {ns : List Nat} {i : Nat} (h : i < ns.length) : ns.getD i 0 = ns[i] := by rw [List.getD_eq_getElem?_getD, List.getElem?_eq_getElem h]; rfl
theorem chunk {d : Nat} (hd : d < 4) (ns : List Nat) (k : Nat) (h : (k + 1) * wd d ≤ ns.length) : numsOf d (placeAt d ns k) = (ns.drop (k * wd d)).take (wd d) := by
  have e : ∀ r, k * wd d + r < ns.length → (ns.drop (k * wd d))[r]? = some (ns.getD (k * wd d + r) 0) := by
    intro r hr
    rw [List.getElem?_drop, List.getElem?_eq_getElem hr, getD_in' hr]
  rw [Nat.succ_mul] at h
  apply List.ext_getElem?
  intro r
  rw [List.getElem?_take]
  rcases four hd with rfl | rfl | rfl | rfl
  · have h0 : wd 0 = 2 := rfl
    rw [h0] at h e ⊢
    match r with
    | 0 => rw [if_pos (by omega), e 0 (by omega)]; simp [numsOf, placeAt, wd]
    | 1 => rw [if_pos (by omega), e 1 (by omega)]; simp [numsOf, placeAt, wd]
    | r + 2 => rw [if_neg (by omega)]; simp [numsOf]
  · have h0 : wd 1 = 3 := rfl
    rw [h0] at h e ⊢
    match r with
    | 0 => rw [if_pos (by omega), e 0 (by omega)]; simp [numsOf, placeAt, wd]
    | 1 => rw [if_pos (by omega), e 1 (by omega)]; simp [numsOf, placeAt, wd]
    | 2 => rw [if_pos (by omega), e 2 (by omega)]; simp [numsOf, placeAt, wd]
    | r + 3 => rw [if_neg (by omega)]; simp [numsOf]
  · have h0 : wd 2 = 3 := rfl
    rw [h0] at h e ⊢
    match r with
    | 0 => rw [if_pos (by omega), e 0 (by omega)]; simp [numsOf, placeAt, wd]
    | 1 => rw [if_pos (by omega), e 1 (by omega)]; simp [numsOf, placeAt, wd]
    | 2 => rw [if_pos (by omega), e 2 (by omega)]; simp [numsOf, placeAt, wd]
    | r + 3 => rw [if_neg (by omega)]; simp [numsOf]
  · have h0 : wd 3 = 4 := rfl
    rw [h0] at h e ⊢
    match r with
    | 0 => rw [if_pos (by omega), e 0 (by omega)]; simp [numsOf, placeAt, wd]
    | 1 => rw [if_pos (by omega), e 1 (by omega)]; simp [numsOf, placeAt, wd]
    | 2 => rw [if_pos (by omega), e 2 (by omega)]; simp [numsOf, placeAt, wd]
    | 3 => rw [if_pos (by omega), e 3 (by omega)]; simp [numsOf, placeAt, wd]
    | r + 4 => rw [if_neg (by omega)]; simp [numsOf]
theorem nums_placesN {d : Nat} (hd : d < 4) (ns : List Nat) : ∀ k, k * wd d ≤ ns.length → numsF d (placesN d ns k) = ns.take (k * wd d)
  | 0, _ => by simp [placesN, numsF]
  | k + 1, h => by
    have h' : k * wd d ≤ ns.length := by rw [Nat.succ_mul] at h; omega
    rw [placesN_succ, numsF_append, numsF_one, nums_placesN hd ns k h', chunk hd ns k h, Nat.succ_mul, List.take_add]
theorem nums_places {d : Nat} (hd : d < 4) {ns : List Nat} (h : ns.length % wd d = 0) : numsF d (placesF d ns) = ns := by
  have e : ns.length / wd d * wd d = ns.length := Nat.div_mul_cancel (Nat.dvd_of_mod_eq_zero h)
  unfold placesF
  rw [nums_placesN hd ns _ (by omega), e, List.take_length]
/-- whole places alone -/
def whole (d : Nat) (ns : List Nat) : List Nat := ns.take (ns.length / wd d * wd d)
theorem div_mul_le' (n w : Nat) : n / w * w ≤ n := Nat.div_mul_le_self n w
theorem whole_length (d : Nat) (ns : List Nat) : (whole d ns).length = ns.length / wd d * wd d := by
  unfold whole; rw [List.length_take]; have := div_mul_le' ns.length (wd d); omega
theorem whole_mod (d : Nat) (ns : List Nat) : (whole d ns).length % wd d = 0 := by rw [whole_length, Nat.mul_mod_left]
theorem whole_self {d : Nat} {ns : List Nat} (h : ns.length % wd d = 0) : whole d ns = ns := by
  unfold whole; rw [Nat.div_mul_cancel (Nat.dvd_of_mod_eq_zero h), List.take_length]
theorem nums_places_whole {d : Nat} (hd : d < 4) (ns : List Nat) : numsF d (placesF d ns) = whole d ns := by
  unfold placesF whole; exact nums_placesN hd ns _ (div_mul_le' _ _)
theorem placeAt_cons {d : Nat} (hd : d < 4) (p : P4) (ns : List Nat) (i : Nat) : placeAt d (numsOf d p ++ ns) (i + 1) = placeAt d ns i := by
  have hl := numsOf_length hd p
  have e : ∀ r, (numsOf d p ++ ns).getD ((i + 1) * wd d + r) 0 = ns.getD (i * wd d + r) 0 := by
    intro r
    rw [List.getD_eq_getElem?_getD, List.getD_eq_getElem?_getD, List.getElem?_append_right (by rw [hl, Nat.succ_mul]; omega), hl, Nat.succ_mul, show i * wd d + wd d + r - wd d = i * wd d + r by omega]
  have e0 := e 0
  rw [Nat.add_zero, Nat.add_zero] at e0
  unfold placeAt
  rw [e, e, e, e0]
  rfl
theorem placeAt_zero {d : Nat} (hd : d < 4) (p : P4) (ns : List Nat) : placeAt d (numsOf d p ++ ns) 0 = mask d p := by
  rcases four hd with rfl | rfl | rfl | rfl <;> simp [placeAt, numsOf, mask, wd]
theorem placesN_cons {d : Nat} (hd : d < 4) (p : P4) (ns : List Nat) : ∀ k, placesN d (numsOf d p ++ ns) (k + 1) = mask d p :: placesN d ns k := by
  intro k
  unfold placesN
  rw [List.range_succ_eq_map, List.map_cons, placeAt_zero hd, List.map_map]
  congr 1
  exact List.map_congr_left fun i _ => placeAt_cons hd p ns i
theorem places_nums {d : Nat} (hd : d < 4) (ps : List P4) : placesF d (numsF d ps) = ps.map (mask d) := by
  unfold placesF
  rw [numsF_length hd, Nat.mul_div_cancel _ (wd_pos d)]
  induction ps with
  | nil => rfl
  | cons p ps ih =>
    rw [List.length_cons, List.map_cons, ← ih]
    exact placesN_cons hd p _ _
theorem numsOf_mask (d : Nat) (p : P4) : numsOf d (mask d p) = numsOf d p := by
  unfold numsOf mask
  by_cases h1 : d % 2 = 1 <;> by_cases h2 : d / 2 % 2 = 1 <;> simp [h1, h2]
theorem numsF_mask (d : Nat) (ps : List P4) : numsF d (ps.map (mask d)) = numsF d ps := by
  unfold numsF
  induction ps with
  | nil => rfl
  | cons p ps ih => rw [List.map_cons, List.flatMap_cons, List.flatMap_cons, ih, numsOf_mask]
theorem nums_places_nums {d : Nat} (hd : d < 4) (ps : List P4) : numsF d (placesF d (numsF d ps)) = numsF d ps := by rw [places_nums hd, numsF_mask]
/-! ### in memory -/
/-- numbers behind an address -/
def Fs (w : World) (B : Nat) (A : Option Addr) (ns : List Nat) : Prop :=
  ns ≠ [] → ∃ b off, A = some ⟨b, off, none⟩ ∧ b < B ∧ ∀ i (_ : i < ns.length), w.cell? ⟨b, off + i, none⟩ = some (.float .f64 ns[i])
theorem Fs.below {w w' : World} {B B' : Nat} {A : Option Addr} {ns : List Nat} (h : Fs w B A ns) (hb : Below B w w') (hB : B ≤ B') : Fs w' B' A ns := by
  intro hne
  obtain ⟨b, off, e, hlt, hc⟩ := h hne
  exact ⟨b, off, e, by omega, fun i hi => by rw [hb.cell (p := ⟨b, _, none⟩) hlt]; exact hc i hi⟩
theorem Fs.nil (w : World) (B : Nat) (A : Option Addr) : Fs w B A [] := fun h => absurd rfl h
theorem Fs.take {w : World} {B : Nat} {A : Option Addr} {ns : List Nat} (h : Fs w B A ns) (k : Nat) : Fs w B A (ns.take k) := by
  intro hne
  obtain ⟨b, off, e, hlt, hc⟩ := h (fun e => hne (by rw [e]; simp))
  refine ⟨b, off, e, hlt, fun i hi => ?_⟩
  rw [List.length_take] at hi
  rw [List.getElem_take]
  exact hc i (by omega)
/-- places behind an address -/
def Ps (w : World) (B : Nat) (A : Option Addr) (ps : List P4) : Prop :=
  ps ≠ [] → ∃ b off, A = some ⟨b, off, none⟩ ∧ b < B ∧ ∀ i (_ : i < ps.length), w.cell? ⟨b, off + i * 4, none⟩ = some (.float .f64 ps[i].x) ∧ w.cell? ⟨b, off + i * 4 + 1, none⟩ = some (.float .f64 ps[i].y) ∧
    w.cell? ⟨b, off + i * 4 + 2, none⟩ = some (.float .f64 ps[i].z) ∧ w.cell? ⟨b, off + i * 4 + 3, none⟩ = some (.float .f64 ps[i].m)
theorem Ps.below {w w' : World} {B B' : Nat} {A : Option Addr} {ps : List P4} (h : Ps w B A ps) (hb : Below B w w') (hB : B ≤ B') : Ps w' B' A ps := by
  intro hne
  obtain ⟨b, off, e, hlt, hc⟩ := h hne
  refine ⟨b, off, e, by omega, fun i hi => ?_⟩
  rw [hb.cell (p := ⟨b, _, none⟩) hlt, hb.cell (p := ⟨b, _, none⟩) hlt, hb.cell (p := ⟨b, _, none⟩) hlt, hb.cell (p := ⟨b, _, none⟩) hlt]
  exact hc i hi
theorem Ps.nil (w : World) (B : Nat) (A : Option Addr) : Ps w B A [] := fun h => absurd rfl h
/-- the four cells of a geometry -/
def gCells (g : G) (A : Option Addr) (c : Nat) (A' : Option Addr) (c' : Nat) : Array Value := #[.int .i64 g.kind, .int .i64 g.dim, .slice A g.nums.length c, .slice A' g.kids.length c']
def GV (g : G) (A : Option Addr) (c : Nat) (A' : Option Addr) (c' : Nat) : Value := .agg (gCells g A c A' c')
/-- a geometry whose numbers and parts are readable in w below block B -/
inductive GM (w : World) (B : Nat) : G → Option Addr → Nat → Option Addr → Nat → Prop
  | mk {k d : Int} {ns : List Nat} {kids : List G} {A : Option Addr} {c : Nat} {A' : Option Addr} {c' : Nat} {b off : Nat} {fA : Nat → Option Addr} {fc : Nat → Nat} {fA' : Nat → Option Addr} {fc' : Nat → Nat}
      (hn : Fs w B A ns) (hc : ns.length ≤ c) (hc' : kids.length ≤ c') (hA : kids ≠ [] → A' = some ⟨b, off, none⟩ ∧ b < B)
      (hcell : ∀ i (_ : i < kids.length), ∀ j, j < 4 → w.cell? ⟨b, off + i * 4 + j, none⟩ = (gCells kids[i] (fA i) (fc i) (fA' i) (fc' i))[j]?)
      (hkid : ∀ i (_ : i < kids.length), GM w B kids[i] (fA i) (fc i) (fA' i) (fc' i)) : GM w B (.mk k d ns kids) A c A' c'
/-- geometries behind an address -/
def Gs (w : World) (B : Nat) (A : Option Addr) (gs : List G) : Prop :=
  gs ≠ [] → ∃ b off, A = some ⟨b, off, none⟩ ∧ b < B ∧ ∀ i (_ : i < gs.length), ∃ A1 c1 A2 c2, (∀ j, j < 4 → w.cell? ⟨b, off + i * 4 + j, none⟩ = (gCells gs[i] A1 c1 A2 c2)[j]?) ∧ GM w B gs[i] A1 c1 A2 c2
theorem GM.parts {w : World} {B : Nat} {g : G} {A : Option Addr} {c : Nat} {A' : Option Addr} {c' : Nat} (h : GM w B g A c A' c') : Fs w B A g.nums ∧ g.nums.length ≤ c ∧ g.kids.length ≤ c' ∧ Gs w B A' g.kids := by
  cases h with
  | mk hn hc hc' hA hcell hkid =>
    refine ⟨hn, hc, hc', fun hne => ?_⟩
    obtain ⟨e, hb⟩ := hA hne
    exact ⟨_, _, e, hb, fun i hi => ⟨_, _, _, _, hcell i hi, hkid i hi⟩⟩
theorem GM.of {w : World} {B : Nat} {k d : Int} {ns : List Nat} {kids : List G} {A : Option Addr} {c : Nat} {A' : Option Addr} {c' : Nat} (hn : Fs w B A ns) (hc : ns.length ≤ c) (hc' : kids.length ≤ c') (hk : Gs w B A' kids) : GM w B (.mk k d ns kids) A c A' c' := by
  by_cases hne : kids = []
  · subst hne
    exact .mk (b := 0) (off := 0) (fA := fun _ => none) (fc := fun _ => 0) (fA' := fun _ => none) (fc' := fun _ => 0) hn hc hc' (fun h => absurd rfl h) (fun i hi => absurd hi (by simp)) (fun i hi => absurd hi (by simp))
  · obtain ⟨b, off, e, hb, hall⟩ := hk hne
    have key : ∃ f : Nat → Option Addr × Nat × Option Addr × Nat, ∀ i (_ : i < kids.length), (∀ j, j < 4 → w.cell? ⟨b, off + i * 4 + j, none⟩ = (gCells kids[i] (f i).1 (f i).2.1 (f i).2.2.1 (f i).2.2.2)[j]?) ∧ GM w B kids[i] (f i).1 (f i).2.1 (f i).2.2.1 (f i).2.2.2 := by
      have h1 : ∀ i, ∃ q : Option Addr × Nat × Option Addr × Nat, ∀ _ : i < kids.length, (∀ j, j < 4 → w.cell? ⟨b, off + i * 4 + j, none⟩ = (gCells kids[i] q.1 q.2.1 q.2.2.1 q.2.2.2)[j]?) ∧ GM w B kids[i] q.1 q.2.1 q.2.2.1 q.2.2.2 := by
        intro i
        by_cases hi : i < kids.length
        · obtain ⟨A1, c1, A2, c2, h⟩ := hall i hi
          exact ⟨(A1, c1, A2, c2), fun _ => h⟩
        · exact ⟨(none, 0, none, 0), fun h => absurd h hi⟩
      exact ⟨fun i => Classical.choose (h1 i), fun i hi => Classical.choose_spec (h1 i) hi⟩
    obtain ⟨f, hf⟩ := key
    exact .mk (b := b) (off := off) (fA := fun i => (f i).1) (fc := fun i => (f i).2.1) (fA' := fun i => (f i).2.2.1) (fc' := fun i => (f i).2.2.2) hn hc hc' (fun _ => ⟨e, hb⟩) (fun i hi => (hf i hi).1) (fun i hi => (hf i hi).2)
theorem Gs.nil (w : World) (B : Nat) (A : Option Addr) : Gs w B A [] := fun h => absurd rfl h
theorem GM.mov {w w' : World} {B B' : Nat} (hb : Below B w w') (hB : B ≤ B') {g : G} {A : Option Addr} {c : Nat} {A' : Option Addr} {c' : Nat} (h : GM w B g A c A' c') : GM w' B' g A c A' c' := by
  induction h with
  | @mk k d ns kids A c A' c' b off fA fc fA' fc' hn hc hc' hA hcell _ ih =>
    refine .mk (hn.below hb hB) hc hc' (fun hne => ⟨(hA hne).1, Nat.lt_of_lt_of_le (hA hne).2 hB⟩) (fun i hi j hj => ?_) ih
    have hne : kids ≠ [] := fun e => absurd hi (by rw [e]; simp)
    rw [hb.cell (p := ⟨_, _, none⟩) (hA hne).2]
    exact hcell i hi j hj
theorem Gs.below {w w' : World} {B B' : Nat} {A : Option Addr} {gs : List G} (h : Gs w B A gs) (hb : Below B w w') (hB : B ≤ B') : Gs w' B' A gs := by
  intro hne
  obtain ⟨b, off, e, hlt, hall⟩ := h hne
  refine ⟨b, off, e, by omega, fun i hi => ?_⟩
  obtain ⟨A1, c1, A2, c2, h1, h2⟩ := hall i hi
  exact ⟨A1, c1, A2, c2, fun j hj => by rw [hb.cell (p := ⟨b, _, none⟩) hlt]; exact h1 j hj, h2.mov hb hB⟩
end Geo
end Go.Proofs.Ytllomldpbkeioaa
