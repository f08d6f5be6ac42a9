/- Square roots of whole numbers. -/
import Derived.Test.YtjeofjhcdeginaaBase
namespace Go.Proofs.Ytjeofjhcdeginaa
namespace Fl
theorem isI_rung {x : Nat} {a : Int} (h : isI x a) : mg (rung x) = a.natAbs * U := by
  obtain ⟨_, h2⟩ := h
  unfold fv at h2
  have h3 : (a * (U : Int)).natAbs = a.natAbs * U := by rw [Int.natAbs_mul]; rfl
  rw [← h3, ← h2]
  split <;> simp
theorem isI_sqrt {s : Nat} {n : Int} (h : isI s n) (h0 : 0 ≤ n) : ∃ z, Ieee.double.sqrt s = some z ∧ fsqrt s = z ∧ num z ∧ z < 2^64 ∧ (0 < n → neg z = false) ∧ (n = 0 → rung z = 0) ∧
    (∀ x a, isI x a → a * a ≤ n → rung x ≤ rung z) ∧ (∀ x a, isI x a → n ≤ a * a → rung z ≤ rung x) := by
  have hU := U_pos
  have hfv : 0 ≤ fv s := by rw [h.2]; exact Int.mul_nonneg h0 (by omega)
  obtain ⟨z, e1, e2, h1, h2, h3, h4, h5, h6⟩ := sqrt_spec h.1 hfv
  refine ⟨z, e1, e2, h1, h2, fun hn => h3 (by rw [h.2]; exact Int.mul_pos hn (by omega)), fun hn => h4 (by rw [h.2, hn, Int.zero_mul]), fun x a hx ha => h5 _ (Nat.le_of_lt hx.1) ?_, fun x a hx ha => h6 _ ?_⟩
  · rw [isI_rung hx, h.2]
    have : ((a.natAbs * U * (a.natAbs * U) : Nat) : Int) = a * a * ((U : Int) * U) := by
      rw [show a.natAbs * U * (a.natAbs * U) = a.natAbs * a.natAbs * (U * U) by simp only [Nat.mul_assoc, Nat.mul_left_comm]]
      rw [Int.natCast_mul, Int.natAbs_mul_self, Int.natCast_mul]
    rw [this, Int.mul_assoc n]
    exact Int.mul_le_mul_of_nonneg_right ha (Int.mul_nonneg (Int.natCast_nonneg _) (Int.natCast_nonneg _))
  · rw [isI_rung hx, h.2]
    have : ((a.natAbs * U * (a.natAbs * U) : Nat) : Int) = a * a * ((U : Int) * U) := by
      rw [show a.natAbs * U * (a.natAbs * U) = a.natAbs * a.natAbs * (U * U) by simp only [Nat.mul_assoc, Nat.mul_left_comm]]
      rw [Int.natCast_mul, Int.natAbs_mul_self, Int.natCast_mul]
    rw [this, Int.mul_assoc n]
    exact Int.mul_le_mul_of_nonneg_right ha (Int.mul_nonneg (Int.natCast_nonneg _) (Int.natCast_nonneg _))
theorem isI_zero {x : Nat} (h : isI x 0) : rung x = 0 := by
  have h1 := isI_rung h
  rw [show (0 : Int).natAbs = 0 from rfl, Nat.zero_mul] at h1
  rcases Nat.eq_zero_or_pos (rung x) with h5 | h5
  · exact h5
  · have := mg_lt h5; rw [mg_zero] at this; omega
theorem isI_neg {x : Nat} {a : Int} (h : isI x a) (h0 : 0 < a) : neg x = false := by
  cases hn : neg x with
  | false => rfl
  | true =>
    have h2 := h.2
    unfold fv at h2
    rw [hn] at h2
    have := Int.mul_pos h0 (by have := U_pos; omega : (0 : Int) < U)
    simp only [if_true] at h2
    omega
theorem isI_key {x : Nat} {a : Int} (h : isI x a) (h0 : 0 ≤ a) : key x = rung x := by
  rcases Int.lt_or_eq_of_le h0 with h1 | h1
  · unfold key; rw [isI_neg h h1]; rfl
  · subst h1; unfold key; rw [isI_zero h]; split <;> rfl
/-- the root of a sum of two squares -/
theorem root_law {x y s : Nat} {a b : Int} (hx : isI x a) (hy : isI y b) (ha : 0 ≤ a) (hb : 0 ≤ b) (ha' : a ≤ 2^22) (hb' : b ≤ 2^22) (hs : isI s (a * a + b * b)) :
    ∃ z, Ieee.double.sqrt s = some z ∧ fsqrt s = z ∧ num z ∧ z < 2^64 ∧ ((a = 0 ∨ b = 0) → feq z (fadd x y) = true) ∧ (0 < a → 0 < b → flt 0 z = true ∧ fle (bmax x y) z = true) := by
  have hn : 0 ≤ a * a + b * b := Int.add_nonneg (Int.mul_nonneg ha ha) (Int.mul_nonneg hb hb)
  obtain ⟨z, e1, e2, h1, h2, h3, h4, h5, h6⟩ := isI_sqrt hs hn
  refine ⟨z, e1, e2, h1, h2, fun h => ?_, fun p1 p2 => ?_⟩
  · have hadd := isI_fadd hx hy (by omega)
    have hsq : a * a + b * b = (a + b) * (a + b) := by rcases h with rfl | rfl <;> simp
    have hk := isI_key hadd (by omega)
    have hr : rung z = rung (fadd x y) := Nat.le_antisymm (h6 _ _ hadd (by omega)) (h5 _ _ hadd (by omega))
    rw [feq_iff]
    refine ⟨h1, fin_num hadd.1, ?_⟩
    rw [hk, ← hr]
    by_cases h0 : a * a + b * b = 0
    · unfold key; rw [h4 h0]; split <;> rfl
    · unfold key; rw [h3 (by omega)]; rfl
  · have q1 := Int.mul_pos p1 p1
    have q2 := Int.mul_pos p2 p2
    have hz : key z = rung z := by unfold key; rw [h3 (by omega)]; rfl
    have r1 := h5 _ _ hx (by omega)
    have r2 := h5 _ _ hy (by omega)
    have k1 := isI_key hx ha
    have k2 := isI_key hy hb
    have hpos : 0 < rung x := by
      rcases Nat.eq_zero_or_pos (rung x) with h0 | h0
      · have hr := isI_rung hx
        rw [h0, mg_zero] at hr
        rcases Nat.mul_eq_zero.1 hr.symm with h | h
        · omega
        · have := U_pos; omega
      · exact h0
    have k0 : key 0 = 0 := rfl
    have n0 : num 0 := by unfold num; decide
    refine ⟨?_, ?_⟩
    · rw [flt_iff]; exact ⟨n0, h1, by omega⟩
    · rw [fle_iff]
      refine ⟨num_bmax (fin_num hx.1) (fin_num hy.1), h1, ?_⟩
      rw [key_bmax (fin_num hx.1) (fin_num hy.1)]
      omega
end Fl
end Go.Proofs.Ytjeofjhcdeginaa
