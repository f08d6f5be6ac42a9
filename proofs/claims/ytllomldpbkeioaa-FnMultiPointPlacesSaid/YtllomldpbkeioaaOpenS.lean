/- Arguments opened: slices. -/
import Derived.Test.YtllomldpbkeioaaOpen
namespace Go.Proofs.Ytllomldpbkeioaa
open Go.Joins Go.ChangeShapes Go.WideShapes Go.RowKit Go.Deep
section
variable {H : Type} {enc : TypeId × Value → H} {P : Program} {w : World} {spare : Nat → Bool} {held : Bool}
theorem cell_lt {w : World} {b o : Nat} {v : Value} (h : w.cell? ⟨b, o, none⟩ = some v) : b < w.heap.size := by
  rcases Nat.lt_or_ge b w.heap.size with h1 | h1
  · exact h1
  · unfold World.cell? at h
    rw [Array.getElem?_eq_none h1] at h
    cases h
theorem cells_at {b off n : Nat} {sp : Option Nat} {k : Nat} {cs : List Value} (hpos : 0 < n) (h : w.cells? 0 ((⟨b, off, sp⟩ : Addr).add k) n = some cs) : (0 < k ∨ sp = none) ∧ cs.length = n ∧ ∀ i, i < n → w.cell? ⟨b, off + k + i, none⟩ = cs[i]? := by
  obtain ⟨_, hlen, hcell⟩ := World.cells?_some h
  have g0 := hcell 0 hpos
  obtain ⟨c0, hc0⟩ : ∃ c0, cs[0]? = some c0 := by
    cases cs with
    | nil => simp at hlen; omega
    | cons c _ => exact ⟨c, rfl⟩
  rw [hc0] at g0
  by_cases hk : k = 0
  · subst hk
    simp [Addr.add] at g0
    obtain rfl : sp = none := by simpa using World.cell?_spot g0
    refine ⟨.inr rfl, hlen, fun i hi => ?_⟩
    have := hcell i hi
    simp only [Addr.add, if_true] at this
    by_cases hi0 : i = 0
    · subst hi0; simpa using this
    · rw [if_neg hi0] at this; simpa using this
  · refine ⟨.inl (by omega), hlen, fun i hi => ?_⟩
    have := hcell i hi
    rw [show (⟨b, off, sp⟩ : Addr).add k = ⟨b, off + k, none⟩ by simp [Addr.add, hk], add_plain] at this
    exact this
/-- a slice's elements, each by its cells -/
theorem trod_elems {t e : TypeId} {fuel : Nat} {v : Value} {y : DataW H × List MemPlace} (ht : P.underlying t = some (.slice e)) (hpos : 0 < P.cellsOf e) (h : DataW.trod enc P w 0 spare held fuel t [v] = some y) :
    ∃ A n c, v = .slice A n c ∧ (n ≤ maxLen ∧ n ≤ c) ∧ (n ≠ 0 → ∃ b off m, A = some ⟨b, off, none⟩ ∧ b < w.heap.size ∧ fuel = m + 1 ∧ ∀ i, i < n → ∃ cs z, cs.length = P.cellsOf e ∧ (∀ k, k < P.cellsOf e → w.cell? ⟨b, off + i * P.cellsOf e + k, none⟩ = cs[k]?) ∧
      DataW.trod enc P w 0 spare held m e cs = some z) := by
  rcases DataW.trod_slice ht h with ⟨h1, h2⟩ | ⟨a, len, cap, elems, rest, m, hf, h1, h2, hb, hl, hm, hlen, hel, _, _⟩
  · simp at h1
    exact ⟨none, 0, 0, h1, ⟨by simp, Nat.le_refl _⟩, fun h => absurd rfl h⟩
  · simp at h1
    refine ⟨some a, len, cap, h1, ⟨by omega, hl⟩, fun h0 => ?_⟩
    obtain ⟨b, off, sp⟩ := a
    have one : ∀ i, i < len → ∃ cs z, w.cells? 0 ((⟨b, off, sp⟩ : Addr).add (i * P.cellsOf e)) (P.cellsOf e) = some cs ∧ DataW.trod enc P w 0 spare held m e cs = some z := by
      intro i hi
      have h3 := hel i hi
      rw [List.getElem?_eq_getElem (by omega), Option.bind_eq_some_iff] at h3
      obtain ⟨cs, h4, h5⟩ := h3
      exact ⟨cs, _, h4, h5⟩
    have hsp : sp = none := by
      obtain ⟨cs, z, h3, _⟩ := one 0 (by omega)
      rcases (cells_at hpos h3).1 with h4 | h4
      · omega
      · exact h4
    subst hsp
    refine ⟨b, off, m, rfl, ?_, hf, fun i hi => ?_⟩
    · obtain ⟨cs, z, h3, _⟩ := one 0 (by omega)
      obtain ⟨_, h4, h5⟩ := cells_at hpos h3
      have := h5 0 hpos
      rw [List.getElem?_eq_getElem (by omega)] at this
      exact cell_lt this
    · obtain ⟨cs, z, h3, h6⟩ := one i hi
      obtain ⟨_, h4, h5⟩ := cells_at hpos h3
      exact ⟨cs, z, h4, h5, h6⟩
theorem list_of {α : Type} (n : Nat) (R : Nat → α → Prop) (h : ∀ i, i < n → ∃ x, R i x) : ∃ l : List α, l.length = n ∧ ∀ i (hi : i < l.length), R i l[i] := by
  induction n with
  | zero => exact ⟨[], rfl, fun i hi => absurd hi (by simp)⟩
  | succ n ih =>
    obtain ⟨l, hl, hr⟩ := ih (fun i hi => h i (by omega))
    obtain ⟨x, hx⟩ := h n (by omega)
    refine ⟨l ++ [x], by simp [hl], fun i hi => ?_⟩
    rw [List.getElem_append]
    split
    · exact hr i _
    · rename_i h1
      simp at hi ⊢
      obtain rfl : i = n := by omega
      exact hx
/-- a slice of places -/
theorem trod_xys {t e f : TypeId} {f0 f1 : Field} {fuel : Nat} {v : Value} {y : DataW H × List MemPlace} (ht : P.underlying t = some (.slice e)) (hs : P.underlying e = some (.struct #[f0, f1])) (hone : oneCellFields P #[f0, f1] = true) (hC : P.cellsOf e = 2) (he : P.underlying f = some (.float .f64)) (h0 : f0.type = f) (h1 : f1.type = f)
    (h : DataW.trod enc P w 0 spare held fuel t [v] = some y) : ∃ A c ps, v = .slice A ps.length c ∧ ps.length ≤ maxLen ∧ XYs w w.heap.size A ps ∧ ∀ p ∈ ps, p.1 < 2^64 ∧ p.2 < 2^64 := by
  obtain ⟨A, n, c, rfl, ⟨hn, _⟩, hel⟩ := trod_elems ht (by omega) h
  by_cases hn0 : n = 0
  · subst hn0
    exact ⟨A, c, [], rfl, by simp, fun h => absurd rfl h, fun p hp => by cases hp⟩
  · obtain ⟨b, off, m, rfl, hb, _, hall⟩ := hel hn0
    obtain ⟨ps, hl, hps⟩ := list_of n (fun i (p : Nat × Nat) => w.cell? ⟨b, off + i * 2, none⟩ = some (.float .f64 p.1) ∧ w.cell? ⟨b, off + i * 2 + 1, none⟩ = some (.float .f64 p.2) ∧ p.1 < 2^64 ∧ p.2 < 2^64) (by
      intro i hi
      obtain ⟨cs, z, hlen, hcell, htr⟩ := hall i hi
      rw [hC] at hlen hcell
      match cs, hlen with
      | [c0, c1], _ =>
        obtain ⟨xs, n', _, _, _, hlen', hg⟩ := DataW.trod_struct hs htr
        match xs, hlen' with
        | [z0, z1], _ =>
          obtain ⟨p0, m0⟩ := hone_of hone 0 f0 rfl
          obtain ⟨p1, m1⟩ := hone_of hone 1 f1 rfl
          have r0 := hg 0 f0 rfl
          have r1 := hg 1 f1 rfl
          rw [m0, p0, h0] at r0; rw [m1, p1, h1] at r1
          obtain ⟨x, hc1, hx1, _⟩ := trod_float he (by simpa using r0)
          obtain ⟨y, hc2, hx2, _⟩ := trod_float he (by simpa using r1)
          subst hc1 hc2
          have q0 := hcell 0 (by omega)
          have q1 := hcell 1 (by omega)
          exact ⟨(x, y), by simpa using q0, by simpa using q1, f64_lt hx1, f64_lt hx2⟩)
    refine ⟨_, c, ps, by rw [hl], by omega, fun _ => ⟨b, off, rfl, hb, fun i hi => ⟨(hps i hi).1, (hps i hi).2.1⟩⟩, fun p hp => ?_⟩
    obtain ⟨i, hi, rfl⟩ := List.mem_iff_getElem.1 hp
    exact (hps i hi).2.2
theorem open_xys {t e f : TypeId} {f0 f1 : Field} {r : Reach} {b0 : Nat} {v : Value} {d : DataW H} {p : List MemPlace} (ht : P.underlying t = some (.slice e)) (hs : P.underlying e = some (.struct #[f0, f1])) (hone : oneCellFields P #[f0, f1] = true) (hC : P.cellsOf e = 2) (he : P.underlying f = some (.float .f64)) (h0 : f0.type = f) (h1 : f1.type = f)
    (hv : Value.okWide P w r b0 t v) (h : DataW.Trod enc P w 0 spare held t v d p) : ∃ A c ps, v = .slice A ps.length c ∧ ps.length ≤ maxLen ∧ XYs w w.heap.size A ps ∧ ∀ p ∈ ps, p.1 < 2^64 ∧ p.2 < 2^64 := by
  obtain ⟨a, n, c, rfl⟩ := okWide_slice ht hv
  obtain ⟨fuel, hf⟩ := h
  exact trod_xys ht hs hone hC he h0 h1 (by simpa [Value.cells] using hf)
end
end Go.Proofs.Ytllomldpbkeioaa
