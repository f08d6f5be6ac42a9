/- Arguments opened: geometries. -/
import Derived.Test.YtllomldpbkeioaaOpenS
import Derived.Test.YtllomldpbkeioaaG0
namespace Go.Proofs.Ytllomldpbkeioaa
open Go.Joins Go.ChangeShapes Go.WideShapes Go.RowKit Go.Deep
namespace Geo
def inI64 (n : Int) : Prop := -9223372036854775808 ≤ n ∧ n ≤ 9223372036854775807
mutual
def okG : G → Prop
  | .mk k d ns kids => inI64 k ∧ inI64 d ∧ (∀ x ∈ ns, x < 2^64) ∧ okL kids
def okL : List G → Prop
  | [] => True
  | g :: l => okG g ∧ okL l
end
theorem okL_all : ∀ (l : List G), (∀ g ∈ l, okG g) → okL l
  | [], _ => by unfold okL; trivial
  | g :: l, h => by unfold okL; exact ⟨h g (by simp), okL_all l fun x hx => h x (by simp [hx])⟩
theorem okL_mem : ∀ {l : List G}, okL l → ∀ g ∈ l, okG g
  | [], _, g, hg => by cases hg
  | x :: l, h, g, hg => by
    unfold okL at h
    rcases List.mem_cons.1 hg with e | e
    · exact e ▸ h.1
    · exact okL_mem h.2 g e
theorem list_of4 {α : Type} (n : Nat) (R : Nat → α → Prop) (h : ∀ i, i < n → ∃ x, R i x) : ∃ l : List α, l.length = n ∧ ∀ i (hi : i < l.length), R i l[i] := list_of n R h
section
variable {H : Type} {enc : TypeId × Value → H} {w : World} {spare : Nat → Bool} {held : Bool}
theorem wf_i64 {n : Int} (h : (Lit.int .i64 n).wf = true) : inI64 n := by
  simp only [Lit.wf, Bool.and_eq_true, decide_eq_true_eq] at h
  exact h
structure GT (P : Program) (tG tI tF tN tK : TypeId) (f0 f1 f2 f3 : Field) : Prop where
  hs : P.underlying tG = some (.struct #[f0, f1, f2, f3])
  hone : oneCellFields P #[f0, f1, f2, f3] = true
  hC : P.cellsOf tG = 4
  t0 : f0.type = tI
  t1 : f1.type = tI
  t2 : f2.type = tN
  t3 : f3.type = tK
  hI : P.underlying tI = some (.int .i64)
  hF : P.underlying tF = some (.float .f64)
  hN : P.underlying tN = some (.slice tF)
  hK : P.underlying tK = some (.slice tG)
  cF : P.cellsOf tF = 1
variable {P : Program} {tG tI tF tN tK : TypeId} {f0 f1 f2 f3 : Field}
theorem trod_geom (T : GT P tG tI tF tN tK f0 f1 f2 f3) (fuel : Nat) : ∀ (cs : List Value) (y : DataW H × List MemPlace), DataW.trod enc P w 0 spare held fuel tG cs = some y →
    ∃ g A c A' c', cs = (gCells g A c A' c').toList ∧ GM w w.heap.size g A c A' c' ∧ okG g := by
  induction fuel using Nat.strongRecOn with
  | _ fuel ih =>
    intro cs y h
    obtain ⟨xs, n, hfu, _, hlc, hlen, hg⟩ := DataW.trod_struct T.hs h
    have hC := T.hC
    rw [hC] at hlc
    match cs, hlc with
    | [v0, v1, v2, v3], _ =>
      match xs, hlen with
      | [y0, y1, y2, y3], _ =>
        have q0 := hg 0 f0 rfl
        have q1 := hg 1 f1 rfl
        have q2 := hg 2 f2 rfl
        have q3 := hg 3 f3 rfl
        obtain ⟨p0, m0⟩ := hone_of T.hone 0 f0 rfl
        obtain ⟨p1, m1⟩ := hone_of T.hone 1 f1 rfl
        obtain ⟨p2, m2⟩ := hone_of T.hone 2 f2 rfl
        obtain ⟨p3, m3⟩ := hone_of T.hone 3 f3 rfl
        rw [m0, p0, T.t0] at q0
        rw [m1, p1, T.t1] at q1
        rw [m2, p2, T.t2] at q2
        rw [m3, p3, T.t3] at q3
        have a4 := T.cF
        simp at q0 q1 q2 q3
        obtain ⟨k, e0, _, hk⟩ := DataW.trod_int T.hI q0
        obtain ⟨d, e1, _, hd⟩ := DataW.trod_int T.hI q1
        simp at e0 e1
        subst e0 e1
        obtain ⟨A, nn, c, rfl, ⟨_, hnc⟩, hel⟩ := trod_elems T.hN (by rw [a4]; decide) q2
        obtain ⟨A', nk, c', rfl, ⟨_, hkc⟩, hek⟩ := trod_elems T.hK (by rw [hC]; decide) q3
        rw [a4] at hel
        rw [hC] at hek
        have hN : ∃ ns : List Nat, ns.length = nn ∧ Fs w w.heap.size A ns ∧ ∀ x ∈ ns, x < 2^64 := by
          by_cases h0 : nn = 0
          · exact ⟨[], h0.symm, Fs.nil _ _ _, fun x hx => by cases hx⟩
          · obtain ⟨b, off, m, rfl, hb, _, hall⟩ := hel h0
            obtain ⟨ns, hl, hns⟩ := list_of nn (fun i (x : Nat) => w.cell? ⟨b, off + i, none⟩ = some (.float .f64 x) ∧ x < 2^64) (by
              intro i hi
              obtain ⟨cs, z, hlen, hcell, htr⟩ := hall i hi
              match cs, hlen with
              | [u], _ =>
                obtain ⟨x, rfl, hx, _⟩ := trod_float T.hF htr
                have := hcell 0 (by omega)
                exact ⟨x, by simpa using this, f64_lt hx⟩)
            refine ⟨ns, hl, fun _ => ⟨b, off, rfl, hb, fun i hi => (hns i hi).1⟩, fun x hx => ?_⟩
            obtain ⟨i, hi, rfl⟩ := List.mem_iff_getElem.1 hx
            exact (hns i hi).2
        have hK : ∃ kids : List G, kids.length = nk ∧ Gs w w.heap.size A' kids ∧ ∀ x ∈ kids, okG x := by
          by_cases h0 : nk = 0
          · exact ⟨[], h0.symm, Gs.nil _ _ _, fun x hx => by cases hx⟩
          · obtain ⟨b, off, m, rfl, hb, hm, hall⟩ := hek h0
            obtain ⟨kids, hl, hns⟩ := list_of nk (fun i (g : G) => (∃ A1 c1 A2 c2, (∀ j, j < 4 → w.cell? ⟨b, off + i * 4 + j, none⟩ = (gCells g A1 c1 A2 c2)[j]?) ∧ GM w w.heap.size g A1 c1 A2 c2) ∧ okG g) (by
              intro i hi
              obtain ⟨cs, z, hlen, hcell, htr⟩ := hall i hi
              obtain ⟨g, A1, c1, A2, c2, rfl, hgm, hok⟩ := ih m (by omega) _ _ htr
              refine ⟨g, ⟨A1, c1, A2, c2, fun j hj => ?_, hgm⟩, hok⟩
              rw [hcell j hj, Array.getElem?_toList])
            refine ⟨kids, hl, fun _ => ⟨b, off, rfl, hb, fun i hi => (hns i hi).1⟩, fun x hx => ?_⟩
            obtain ⟨i, hi, rfl⟩ := List.mem_iff_getElem.1 hx
            exact (hns i hi).2
        obtain ⟨ns, rfl, hfs, hlt⟩ := hN
        obtain ⟨kids, rfl, hgs, hoks⟩ := hK
        refine ⟨.mk k d ns kids, A, c, A', c', rfl, GM.of hfs hnc hkc hgs, ?_⟩
        unfold okG
        exact ⟨wf_i64 hk, wf_i64 hd, hlt, okL_all _ hoks⟩
theorem open_geom (T : GT P tG tI tF tN tK f0 f1 f2 f3) {r : Reach} {b0 : Nat} {v : Value} {d : DataW H} {p : List MemPlace} (hv : Value.okWide P w r b0 tG v) (h : DataW.Trod enc P w 0 spare held tG v d p) :
    ∃ g A c A' c', v = GV g A c A' c' ∧ GM w w.heap.size g A c A' c' ∧ okG g := by
  obtain ⟨cs, rfl, hsz⟩ := okWide_struct T.hs hv
  obtain ⟨fuel, hf⟩ := h
  obtain ⟨g, A, c, A', c', e, h1, h2⟩ := trod_geom T fuel _ _ hf
  refine ⟨g, A, c, A', c', ?_, h1, h2⟩
  unfold GV
  congr 1
  simp only [Value.cells] at e
  exact Array.toList_inj.1 e
/-- a slice of geometries -/
theorem open_geoms (T : GT P tG tI tF tN tK f0 f1 f2 f3) {r : Reach} {b0 : Nat} {v : Value} {d : DataW H} {p : List MemPlace} (hv : Value.okWide P w r b0 tK v) (h : DataW.Trod enc P w 0 spare held tK v d p) :
    ∃ A c gs, v = .slice A gs.length c ∧ gs.length ≤ c ∧ gs.length ≤ maxLen ∧ Gs w w.heap.size A gs ∧ okL gs := by
  obtain ⟨a, n, c, rfl⟩ := okWide_slice T.hK hv
  obtain ⟨fuel, hf⟩ := h
  have hC := T.hC
  obtain ⟨A', nk, c', e, ⟨hml, hkc⟩, hek⟩ := trod_elems T.hK (by rw [hC]; decide) (by simpa [Value.cells] using hf)
  rw [hC] at hek
  by_cases h0 : nk = 0
  · subst h0
    exact ⟨A', c', [], by simpa using e, Nat.zero_le _, Nat.zero_le _, Gs.nil _ _ _, okL_all _ fun x hx => by cases hx⟩
  · obtain ⟨b, off, m, rfl, hb, hm, hall⟩ := hek h0
    obtain ⟨kids, hl, hns⟩ := list_of nk (fun i (g : G) => (∃ A1 c1 A2 c2, (∀ j, j < 4 → w.cell? ⟨b, off + i * 4 + j, none⟩ = (gCells g A1 c1 A2 c2)[j]?) ∧ GM w w.heap.size g A1 c1 A2 c2) ∧ okG g) (by
      intro i hi
      obtain ⟨cs, z, hlen, hcell, htr⟩ := hall i hi
      obtain ⟨g, A1, c1, A2, c2, rfl, hgm, hok⟩ := trod_geom T m _ _ htr
      refine ⟨g, ⟨A1, c1, A2, c2, fun j hj => ?_, hgm⟩, hok⟩
      rw [hcell j hj, Array.getElem?_toList])
    subst hl
    refine ⟨_, c', kids, e, hkc, hml, fun _ => ⟨b, off, rfl, hb, fun i hi => (hns i hi).1⟩, okL_all _ fun x hx => ?_⟩
    obtain ⟨i, hi, rfl⟩ := List.mem_iff_getElem.1 hx
    exact (hns i hi).2
end
theorem gT : ∃ f0 f1 f2 f3, GT Try.prog 26 3 66 24 22 f0 f1 f2 f3 := ⟨_, _, _, _, Try.underlying26, by kernel_rfl, by kernel_rfl, rfl, rfl, rfl, rfl, Try.underlying3, Try.underlying66, Try.underlying24, Try.underlying22, by kernel_rfl⟩
end Geo
end Go.Proofs.Ytllomldpbkeioaa
