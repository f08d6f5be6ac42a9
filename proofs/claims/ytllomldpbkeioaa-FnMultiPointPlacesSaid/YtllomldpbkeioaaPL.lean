/- The law of the places of several points, in plain terms. -/
import Derived.Test.YtllomldpbkeioaaP6
import Derived.Test.YtllomldpbkeioaaGA
namespace Go.Proofs.Ytllomldpbkeioaa
namespace Geo
theorem sz_small (g : G) : sz g ≤ 2000 → allG smallN g := by
  induction g using G.ind with
  | _ k d ns kids ih =>
    intro h
    rw [allG_iff]
    have h0 := h
    unfold sz at h0
    have h1 := szL_len kids
    refine ⟨⟨by omega, by omega⟩, fun x hx => ih x hx ?_⟩
    have := szL_mem hx
    omega
theorem allN_sz (g : G) : (allN g).length ≤ sz g := by
  induction g using G.ind with
  | _ k d ns kids ih =>
    rw [allN_eq, List.length_append]
    unfold sz
    have : (kids.flatMap allN).length ≤ szL kids := by
      clear ns k d
      induction kids with
      | nil => simp [szL]
      | cons x l ihl =>
        rw [List.flatMap_cons, List.length_append]
        unfold szL
        have h1 := ih x (by simp)
        have h2 := ihl fun y hy => ih y (by simp [hy])
        omega
    omega
theorem newG_kind (k d : Int) (ns : List Nat) (kids : List G) : (newG (.mk k d ns kids)).kind = kindN k := by
  rw [newG_eq]
  unfold newTop
  split
  · rename_i h; rw [h]; rfl
  · split
    · rename_i h; rw [h]; rfl
    · split
      · rfl
      · rw [forceG_eq]; rfl
theorem kindN_one (k : Int) : kindN k = 1 ↔ k = 1 := by
  unfold kindN
  split <;> omega
theorem newG_one (g : G) (h : g.kind = 1) : newG g = .mk 1 (dim3 g.dim) (leafN1 (dim3 g.dim) g.nums) [] := by
  obtain ⟨k, d, ns, kids⟩ := g
  simp only [G.kind] at h
  subst h
  rw [newG_eq]
  unfold newTop
  rw [if_pos (by decide)]
  rfl
theorem kept_filter (kids : List G) : (kids.map newG).filter (keeps 4) = (kids.filter fun k => decide (k.kind = 1)).map newG := by
  rw [List.filter_map]
  congr 1
  apply List.filter_congr
  intro x _
  obtain ⟨k, d, ns, ks⟩ := x
  show keeps 4 (newG (.mk k d ns ks)) = _
  unfold keeps
  rw [newG_kind]
  simp only [G.kind]
  have h4 : kidOf 4 = 1 := by decide
  rw [h4]
  by_cases h : k = 1
  · subst h; simp [kindN]
  · have h2 : ¬ ((1 : Int) = kindN k) := fun e => h ((kindN_one k).1 e.symm)
    simp [h, h2]
theorem ptOf_dd (g : G) : (ptOf g).d = dim3 g.dim := by unfold ptOf; split <;> rfl
theorem andD_dims (L : List G) (h : ∀ g ∈ L, g.kind = 1) : ∀ a : Nat, (L.map newG).foldl (fun a m => a &&& m.dim.toNat) a = (L.map ptOf).foldl (fun a q => a &&& q.d) a := by
  induction L with
  | nil => intro a; rfl
  | cons x L ih =>
    intro a
    rw [List.map_cons, List.map_cons, List.foldl_cons, List.foldl_cons, ih (fun g hg => h g (by simp [hg]))]
    congr 2
    rw [newG_one x (h x (by simp)), ptOf_dd]
    show ((dim3 x.dim : Nat) : Int).toNat = _
    rw [Int.toNat_natCast]
theorem numsOf_force {D e : Nat} (hD : D < 4) (he : e < 4) (h : D &&& e = D) (p : P4) : numsOf D (pForce p e D) = numsOf D p := by
  rcases four hD with rfl | rfl | rfl | rfl <;> rcases four he with rfl | rfl | rfl | rfl <;> revert h <;> simp [numsOf, pForce]
theorem getD_take {ns : List Nat} {m i : Nat} (h : i < m) : (ns.take m).getD i 0 = ns.getD i 0 := by
  rw [List.getD_eq_getElem?_getD, List.getD_eq_getElem?_getD, List.getElem?_take, if_pos h]
theorem placeAt_take {e : Nat} (ns : List Nat) {m : Nat} (hm : wd e ≤ m) : placeAt e (ns.take m) 0 = placeAt e ns 0 := by
  have hw := wd_le e
  have e0 : (ns.take m).getD 0 0 = ns.getD 0 0 := getD_take (by omega)
  have e1 : (ns.take m).getD 1 0 = ns.getD 1 0 := getD_take (by omega)
  have em : (ns.take m).getD (wd e - 1) 0 = ns.getD (wd e - 1) 0 := getD_take (by omega)
  have ez : e % 2 = 1 → (ns.take m).getD 2 0 = ns.getD 2 0 := fun h => getD_take (by unfold wd at hm; omega)
  unfold placeAt
  simp only [Nat.zero_mul, Nat.zero_add]
  rw [e0, e1, em]
  by_cases h : e % 2 = 1
  · rw [ez h]
  · simp only [if_neg h]
/-- the numbers of a point under a lower type -/
theorem one_point {D e : Nat} (hD : D < 4) (he : e < 4) (h : D &&& e = D) (ns : List Nat) :
    numsF D (placesF e (leafN1 e ns)) = if ns.length / wd e = 0 then [] else numsOf D (pForce (placeAt e (whole e ns) 0) e D) := by
  have hw := wd_le e
  unfold leafN1
  by_cases h0 : ns.length / wd e = 0
  · rw [if_pos h0, h0]
    simp [placesF, placesN, numsF]
  · rw [if_neg h0]
    have h1 : min (ns.length / wd e) 1 = 1 := by
      have := Nat.pos_of_ne_zero h0
      omega
    rw [h1, Nat.one_mul]
    have hge : wd e ≤ ns.length := by
      rcases Nat.lt_or_ge ns.length (wd e) with hlt | hge
      · exact absurd (Nat.div_eq_of_lt hlt) h0
      · exact hge
    have hl : (ns.take (wd e)).length = wd e := by rw [List.length_take]; omega
    have hp : placesF e (ns.take (wd e)) = [placeAt e (ns.take (wd e)) 0] := by
      unfold placesF
      rw [hl, Nat.div_self (wd_pos e)]
      rfl
    rw [hp, numsF_one, numsOf_force hD he h, placeAt_take ns (Nat.le_refl _)]
    congr 1
    unfold whole
    rw [placeAt_take]
    have := Nat.pos_of_ne_zero h0
    exact Nat.le_mul_of_pos_left _ this
theorem flat_points {D : Nat} (hD : D < 4) : ∀ (L : List G), (∀ g ∈ L, g.kind = 1) → (∀ g ∈ L, D &&& dim3 g.dim = D) →
    (L.map newG).flatMap (fun m => allN (forceG D m)) = ptNums ((L.map ptOf).map (forceP D))
  | [], _, _ => rfl
  | x :: L, h1, h2 => by
    have ih := flat_points hD L (fun g hg => h1 g (by simp [hg])) fun g hg => h2 g (by simp [hg])
    rw [List.map_cons, List.flatMap_cons, ih, newG_one x (h1 x (by simp)), forceG_eq, allN_eq, Int.toNat_natCast, one_point hD (dim3_lt _) (h2 x (by simp))]
    rw [List.map_cons, List.map_cons]
    unfold ptNums
    rw [List.filter_cons]
    by_cases h0 : x.nums.length / wd (dim3 x.dim) = 0
    · have e : ptOf x = ⟨p40, dim3 x.dim, false⟩ := by unfold ptOf; rw [if_pos h0]
      rw [if_pos h0, e]
      simp [forceP]
    · have e : ptOf x = ⟨placeAt (dim3 x.dim) (whole (dim3 x.dim) x.nums) 0, dim3 x.dim, true⟩ := by unfold ptOf; rw [if_neg h0]
      rw [if_neg h0, e]
      simp [forceP]
/-- the places of several points, both ways -/
theorem mp_law (d : Int) (ns : List Nat) (kids : List G) : (newG (.mk 4 d ns kids)).dim = mpD d (ptsOf kids) ∧ allN (newG (.mk 4 d ns kids)) = ptNums ((ptsOf kids).map (forceP (mpD d (ptsOf kids)))) := by
  have hk : kindN 4 = 4 := by decide
  rw [newG_eq]
  unfold newTop
  rw [hk, if_neg (by decide), if_neg (by decide), kept_filter]
  unfold ptsOf
  have hL : ∀ g ∈ kids.filter (fun k => decide (k.kind = 1)), g.kind = 1 := fun g hg => by simpa using (List.mem_filter.1 hg).2
  generalize kids.filter (fun k => decide (k.kind = 1)) = L at *
  by_cases h0 : L = []
  · subst h0
    rw [List.map_nil, if_pos rfl, List.map_nil]
    unfold mpD
    rw [if_pos rfl]
    exact ⟨rfl, by rw [allN_eq]; rfl⟩
  · rw [if_neg (by simpa using h0)]
    have hD : dimsAnd (L.map newG) = andD (L.map ptOf) := andD_dims L hL 3
    have hm : mpD d (L.map ptOf) = andD (L.map ptOf) := by unfold mpD; rw [if_neg (by simpa using h0)]
    rw [hm, hD]
    refine ⟨by rw [forceG_eq]; rfl, ?_⟩
    rw [forceG_eq, allN_eq, List.flatMap_map]
    have q0 : numsF (andD (L.map ptOf)) (placesF (dim3 d : Int).toNat []) = [] := by simp [placesF, placesN, numsF]
    rw [q0, List.nil_append]
    refine flat_points (andD_lt _) L hL fun g hg => ?_
    have hmem := dimsAnd_mem (L := L.map newG) (m := newG g) (List.mem_map.2 ⟨g, hg, rfl⟩)
    rw [hD, newG_one g (hL g hg)] at hmem
    simpa [G.dim] using hmem
end Geo
end Go.Proofs.Ytllomldpbkeioaa
