/- Words of float64 as whole numbers of the least unit: order, exact sums, differences, products, whole numbers. -/
import Derived.Laws.FloatBits
import Derived.Laws.Entries
namespace Go.Proofs.Ytllomldpbkeioaa
namespace Fl
open Ieee
theorem signWeight_eq : Ieee.double.signWeight = 2^63 := by decide
theorem binade_eq : Ieee.double.binade = 2^52 := by decide
theorem infRung_eq : Ieee.double.infRung = 2047 * 2^52 := by decide
theorem leastPlace_eq : Ieee.double.leastPlace = -1074 := by decide

def rung (x : Nat) : Nat := x % 2^63
def neg (x : Nat) : Bool := x / 2^63 % 2 == 1
def mg (r : Nat) : Nat := if r < 2^52 then r else (2^52 + r % 2^52) * 2^(r / 2^52 - 1)
def num (x : Nat) : Prop := rung x ≤ 2047 * 2^52
def fin (x : Nat) : Prop := rung x < 2047 * 2^52
def key (x : Nat) : Int := if neg x then -(rung x : Int) else rung x
def fv (x : Nat) : Int := if neg x then -(mg (rung x) : Int) else mg (rung x)

theorem read_sub {x : Nat} (h : rung x < 2^52) : Ieee.double.read x = .number (neg x) (rung x) (-1074) := by
  simp only [Format.read, signWeight_eq, binade_eq, leastPlace_eq]
  unfold rung at *; simp only [h, if_true, neg]
theorem read_norm {x : Nat} (h : 2^52 ≤ rung x) (h2 : rung x < 2047 * 2^52) : Ieee.double.read x = .number (neg x) (2^52 + rung x % 2^52) (-1074 + (rung x / 2^52 - 1 : Nat)) := by
  simp only [Format.read, signWeight_eq, binade_eq, leastPlace_eq, infRung_eq]
  unfold rung at *
  rw [if_neg (by omega), if_pos (by omega)]; rfl
theorem read_inf {x : Nat} (h : rung x = 2047 * 2^52) : Ieee.double.read x = .infinity (neg x) := by
  simp only [Format.read, signWeight_eq, binade_eq, leastPlace_eq, infRung_eq]
  unfold rung at *
  rw [if_neg (by omega), if_neg (by omega), if_pos (by omega)]; rfl
theorem read_nan {x : Nat} (h : 2047 * 2^52 < rung x) : Ieee.double.read x = .nan (neg x) (rung x - 2047 * 2^52) := by
  simp only [Format.read, signWeight_eq, binade_eq, leastPlace_eq, infRung_eq]
  unfold rung at *
  rw [if_neg (by omega), if_neg (by omega), if_neg (by omega)]; rfl

/-- what a finite word reads as -/
theorem read_fin {x : Nat} (h : fin x) : ∃ m k : Nat, Ieee.double.read x = .number (neg x) m (-1074 + (k : Int)) ∧ m * 2^k = mg (rung x) := by
  unfold fin at h
  by_cases h1 : rung x < 2^52
  · exact ⟨rung x, 0, by rw [read_sub h1]; rfl, by simp [mg, h1]⟩
  · exact ⟨_, rung x / 2^52 - 1, read_norm (by omega) h, by simp only [mg, if_neg h1]⟩

theorem mg_lt {r s : Nat} (h : r < s) : mg r < mg s := by
  unfold mg
  by_cases hr : r < 2^52
  · rw [if_pos hr]
    by_cases hs : s < 2^52
    · rw [if_pos hs]; exact h
    · rw [if_neg hs]
      have : 1 ≤ 2 ^ (s / 2^52 - 1) := Nat.one_le_two_pow
      calc r < 2^52 + s % 2^52 := by omega
        _ = (2^52 + s % 2^52) * 1 := by omega
        _ ≤ _ := Nat.mul_le_mul_left _ this
  · rw [if_neg hr, if_neg (by omega)]
    by_cases hq : r / 2^52 = s / 2^52
    · rw [hq]
      exact Nat.mul_lt_mul_of_pos_right (by omega) (Nat.two_pow_pos _)
    · have hq' : r / 2^52 < s / 2^52 := by omega
      have e : s / 2^52 - 1 = (r / 2^52 - 1) + 1 + (s / 2^52 - r / 2^52 - 1) := by omega
      have e2 : 2^(s/2^52 - 1) = 2^(r / 2^52 - 1) * 2 * 2^(s / 2^52 - r / 2^52 - 1) := by
        rw [e, Nat.pow_add, Nat.pow_succ]
      have h1 : 1 ≤ 2^(s / 2^52 - r / 2^52 - 1) := Nat.one_le_two_pow
      calc (2^52 + r % 2^52) * 2^(r/2^52-1) < 2^53 * 2^(r/2^52-1) := Nat.mul_lt_mul_of_pos_right (by omega) (Nat.two_pow_pos _)
        _ = 2^52 * (2^(r / 2^52 - 1) * 2 * 1) := by rw [Nat.mul_one, Nat.mul_comm _ 2, ← Nat.mul_assoc]
        _ ≤ 2^52 * (2^(r / 2^52 - 1) * 2 * 2^(s / 2^52 - r / 2^52 - 1)) := Nat.mul_le_mul_left _ (Nat.mul_le_mul_left _ h1)
        _ = 2^52 * 2^(s/2^52-1) := by rw [e2]
        _ ≤ _ := Nat.mul_le_mul_right _ (by omega)
theorem mg_zero : mg 0 = 0 := by decide
theorem mg_le {r s : Nat} (h : r ≤ s) : mg r ≤ mg s := by
  rcases Nat.lt_or_eq_of_le h with h | h
  · exact Nat.le_of_lt (mg_lt h)
  · subst h; exact Nat.le_refl _
theorem mg_lt_iff {r s : Nat} : mg r < mg s ↔ r < s := by
  constructor
  · intro h; exact Decidable.byContradiction fun hn => absurd (mg_le (Nat.le_of_not_lt hn)) (by omega)
  · exact mg_lt

theorem fv_lt_iff {x y : Nat} : fv x < fv y ↔ key x < key y := by
  have h0 : ∀ r, 0 < r → 0 < mg r := fun r h => by have := mg_lt h; rw [mg_zero] at this; exact this
  have a := @mg_lt_iff (rung x) (rung y)
  have b := @mg_lt_iff (rung y) (rung x)
  have cx : 0 < mg (rung x) ↔ 0 < rung x := by rw [← mg_zero]; rw [mg_lt_iff, mg_zero]
  have cy : 0 < mg (rung y) ↔ 0 < rung y := by rw [← mg_zero]; rw [mg_lt_iff, mg_zero]
  unfold fv key
  split <;> split <;> omega

theorem signed_eq (s : Bool) (m k : Nat) : Ieee.signed s m k = if s then -((m * 2^k : Nat) : Int) else ((m * 2^k : Nat) : Int) := by
  simp only [Ieee.signed, Nat.shiftLeft_eq]

theorem signed_shift (s : Bool) (m k j : Nat) : Ieee.signed s m (k + j) = Ieee.signed s m k * 2^j := by
  simp only [signed_eq, Nat.pow_add, ← Nat.mul_assoc]
  cases s <;> simp [Int.neg_mul]

theorem cmp_scale (a b : Int) (j : Nat) : compare (a * 2^j) (b * 2^j) = compare a b := by
  have hp : (0:Int) < 2^j := Int.pow_pos (by decide)
  have h1 : a * 2^j < b * 2^j ↔ a < b := Int.mul_lt_mul_right hp
  have h2 : a * 2^j = b * 2^j ↔ a = b := ⟨fun h => Int.eq_of_mul_eq_mul_right (by omega) h, fun h => by rw [h]⟩
  simp only [compare, compareOfLessAndEq, h1, h2]

theorem order_fin {x y : Nat} (hx : fin x) (hy : fin y) : Ieee.double.order x y = some (compare (fv x) (fv y)) := by
  obtain ⟨m, k, hm, em⟩ := read_fin hx
  obtain ⟨n, l, hn, en⟩ := read_fin hy
  simp only [Format.order, hm, hn, Datum.order]
  have ex : fv x = Ieee.signed (neg x) m k := by simp only [fv, signed_eq, em]
  have ey : fv y = Ieee.signed (neg y) n l := by simp only [fv, signed_eq, en]
  rw [ex, ey]
  by_cases h : k ≤ l
  · obtain ⟨d, rfl⟩ := Nat.exists_eq_add_of_le h
    rw [show min (-1074 + (k:Int)) (-1074 + ((k+d : Nat):Int)) = -1074 + k by omega]
    rw [show (-1074 + (k:Int) - (-1074 + (k:Int))).toNat = 0 by omega, show (-1074 + ((k+d:Nat):Int) - (-1074 + (k:Int))).toNat = d by omega]
    rw [Nat.add_comm k d, signed_shift, show Ieee.signed (neg x) m k = Ieee.signed (neg x) m 0 * 2^k by rw [← signed_shift, Nat.zero_add], cmp_scale]
  · obtain ⟨d, rfl⟩ := Nat.exists_eq_add_of_le (Nat.le_of_not_le h)
    rw [show min (-1074 + ((l+d:Nat):Int)) (-1074 + (l:Int)) = -1074 + l by omega]
    rw [show (-1074 + (l:Int) - (-1074 + (l:Int))).toNat = 0 by omega, show (-1074 + ((l+d:Nat):Int) - (-1074 + (l:Int))).toNat = d by omega]
    rw [Nat.add_comm l d, signed_shift, show Ieee.signed (neg y) n l = Ieee.signed (neg y) n 0 * 2^l by rw [← signed_shift, Nat.zero_add], cmp_scale]

theorem cmp_key {x y : Nat} : compare (fv x) (fv y) = compare (key x) (key y) := by
  have h1 := @fv_lt_iff x y
  have h2 := @fv_lt_iff y x
  have h3 : fv x = fv y ↔ key x = key y := by omega
  simp only [compare, compareOfLessAndEq, h1, h3]

theorem order_num {x y : Nat} (hx : num x) (hy : num y) : Ieee.double.order x y = some (compare (key x) (key y)) := by
  unfold num at hx hy
  by_cases fx : fin x
  · by_cases fy : fin y
    · rw [order_fin fx fy, cmp_key]
    · obtain ⟨m, k, hm, em⟩ := read_fin fx
      unfold fin at fx fy
      have e : rung y = 2047 * 2^52 := by omega
      simp only [Format.order, hm, read_inf e, Datum.order]
      unfold key
      rw [e]
      cases neg y
      · rw [Int.compare_eq_lt.2 (by simp only [Bool.false_eq_true, if_false]; split <;> omega)]; rfl
      · rw [Int.compare_eq_gt.2 (by simp only [if_true]; split <;> omega)]; rfl
  · unfold fin at fx
    have e : rung x = 2047 * 2^52 := by omega
    by_cases fy : fin y
    · obtain ⟨m, k, hm, em⟩ := read_fin fy
      unfold fin at fy
      simp only [Format.order, hm, read_inf e, Datum.order]
      unfold key
      rw [e]
      cases neg x
      · rw [Int.compare_eq_gt.2 (by simp only [Bool.false_eq_true, if_false]; split <;> omega)]; rfl
      · rw [Int.compare_eq_lt.2 (by simp only [if_true]; split <;> omega)]; rfl
    · unfold fin at fy
      have e2 : rung y = 2047 * 2^52 := by omega
      simp only [Format.order, read_inf e2, read_inf e, Datum.order]
      unfold key
      rw [e, e2]
      cases neg x <;> cases neg y <;> simp <;> decide
theorem order_nan_l {x : Nat} (hx : ¬ num x) (y : Nat) : Ieee.double.order x y = none := by
  unfold num at hx
  simp only [Format.order, read_nan (Nat.lt_of_not_le hx)]
  cases Ieee.double.read y <;> rfl
theorem order_nan_r {y : Nat} (hy : ¬ num y) (x : Nat) : Ieee.double.order x y = none := by
  unfold num at hy
  simp only [Format.order, read_nan (Nat.lt_of_not_le hy)]
  cases Ieee.double.read x <;> rfl

/-! ### words -/
theorem word_lt {s : Bool} {r : Nat} (h : r < 2^63) : Ieee.double.word s r < 2^64 := by
  unfold Format.word; rw [signWeight_eq]; cases s <;> simp <;> omega
theorem rung_word {s : Bool} {r : Nat} (h : r < 2^63) : rung (Ieee.double.word s r) = r := by
  unfold Format.word rung; rw [signWeight_eq]; cases s <;> simp <;> omega
theorem neg_word {s : Bool} {r : Nat} (h : r < 2^63) : neg (Ieee.double.word s r) = s := by
  unfold Format.word neg; rw [signWeight_eq]; cases s
  · simp; omega
  · simp; omega
theorem fv_word {s : Bool} {r : Nat} (h : r < 2^63) : fv (Ieee.double.word s r) = if s then -(mg r : Int) else mg r := by
  unfold fv; rw [rung_word h, neg_word h]
theorem word_self {x : Nat} (h : x < 2^64) : Ieee.double.word (neg x) (rung x) = x := by
  unfold Format.word neg rung; rw [signWeight_eq]
  by_cases hx : x < 2^63
  · have e : (x / 2^63 % 2 == 1) = false := by simp; omega
    rw [e]; simp; omega
  · have e : (x / 2^63 % 2 == 1) = true := by simp; omega
    rw [e]; simp; omega

theorem log2_mul_pow {m : Nat} (h : m ≠ 0) (k : Nat) : (m * 2^k).log2 = m.log2 + k := by
  have h2 : m * 2^k ≠ 0 := Nat.mul_ne_zero h (by have := Nat.two_pow_pos k; omega)
  have a1 := Nat.log2_self_le h
  have a2 := @Nat.lt_log2_self m
  rw [Nat.log2_eq_iff h2]
  constructor
  · rw [Nat.pow_add]; exact Nat.mul_le_mul_right _ a1
  · rw [show m.log2 + k + 1 = (m.log2 + 1) + k by omega, Nat.pow_add]; exact Nat.mul_lt_mul_of_pos_right a2 (Nat.two_pow_pos _)

theorem cut_exact (s : Bool) (q d : Nat) : Toward.even.cut s (q * 2^d) d = q := by
  unfold Toward.cut
  by_cases hq : q = 0
  · subst hq
    have : (0 * 2^d).log2 = 0 := by rw [Nat.zero_mul]; decide
    simp only [Nat.zero_mul, Nat.zero_div, Nat.zero_mod, Nat.mul_zero, Nat.shiftLeft_eq, Nat.one_mul]
    have hp : 0 < 2 ^ min d ((0:Nat).log2 + 2) := Nat.two_pow_pos _
    have e1 : decide (2 ^ min d ((0:Nat).log2 + 2) < 0) = false := by simp
    have e2 : (2 ^ min d ((0:Nat).log2 + 2) == 0) = false := by simp
    rw [e1, e2]; rfl
  · have hl : (q * 2^d).log2 = q.log2 + d := log2_mul_pow hq d
    simp only [hl, show min d (q.log2 + d + 2) = d by omega, Nat.shiftLeft_eq, Nat.one_mul, Nat.mul_div_cancel _ (Nat.two_pow_pos d), Nat.mul_mod_left, Nat.mul_zero]
    have hp : 0 < 2 ^ d := Nat.two_pow_pos _
    have e1 : decide (2 ^ d < 0) = false := by simp
    have e2 : (2 ^ d == 0) = false := by simp
    rw [e1, e2]; rfl

theorem mul_pow_cancel {m q a b : Nat} (h : m * 2^a = q * 2^b) : m * 2^(a - b) = q * 2^(b - a) := by
  by_cases hab : a ≤ b
  · obtain ⟨d, rfl⟩ := Nat.exists_eq_add_of_le hab
    rw [Nat.pow_add, show q * (2^a * 2^d) = (q * 2^d) * 2^a by rw [Nat.mul_comm (2^a), Nat.mul_assoc]] at h
    have := Nat.eq_of_mul_eq_mul_right (Nat.two_pow_pos a) h
    rw [show a - (a + d) = 0 by omega, show a + d - a = d by omega, this]; simp
  · obtain ⟨d, rfl⟩ := Nat.exists_eq_add_of_le (Nat.le_of_not_le hab)
    rw [Nat.pow_add, show m * (2^b * 2^d) = (m * 2^d) * 2^b by rw [Nat.mul_comm (2^b), Nat.mul_assoc]] at h
    have := Nat.eq_of_mul_eq_mul_right (Nat.two_pow_pos b) h
    rw [show b - (b + d) = 0 by omega, show b + d - b = d by omega, this]; simp

/-- THE WORD OF A NUMBER THAT THE FORMAT HAS. -/
theorem nearest_exact {s : Bool} {m r a b : Nat} {place : Int} (hr : r < 2047 * 2^52) (hp : place = -1074 + (a : Int) - (b : Int)) (h : m * 2^a = mg r * 2^b) :
    Ieee.double.nearest s m place = Ieee.double.word s r := by
  unfold Format.nearest
  by_cases hm : m = 0
  · subst hm
    have hz : mg r = 0 := by
      rw [Nat.zero_mul] at h
      rcases Nat.mul_eq_zero.1 h.symm with h | h
      · exact h
      · have := Nat.two_pow_pos b; omega
    have : r = 0 := by
      by_cases h0 : r = 0
      · exact h0
      · have := @mg_lt 0 r (by omega); rw [mg_zero] at this; omega
    rw [if_pos rfl, this]
  rw [if_neg hm]
  have hr0 : mg r ≠ 0 := by
    intro hz; rw [hz, Nat.zero_mul] at h
    rcases Nat.mul_eq_zero.1 h with h | h
    · exact hm h
    · have := Nat.two_pow_pos a; omega
  have hl : m.log2 + a = (mg r).log2 + b := by
    rw [← log2_mul_pow hm a, h, log2_mul_pow hr0 b]
  dsimp only
  have ef : (Ieee.double.fractionBits : Int) = 52 := rfl
  rw [ef, leastPlace_eq, binade_eq, infRung_eq]
  by_cases h1 : r < 2^52
  · have emg : mg r = r := by unfold mg; rw [if_pos h1]
    have hlr : r.log2 < 52 := by
      have : r ≠ 0 := by rw [← emg]; exact hr0
      exact (Nat.log2_lt this).2 h1
    rw [emg] at hl h
    have e1 : max (place + (m.log2 : Int) - 52) (-1074) = -1074 := by omega
    rw [e1]
    have hk := mul_pow_cancel h
    have e2 : (place - -1074).toNat = a - b := by omega
    have e3 : (-1074 - place).toNat = b - a := by omega
    rw [e2, e3, Nat.shiftLeft_eq, hk, cut_exact, show (-1074 - -1074 : Int).toNat = 0 from rfl, Nat.zero_mul, Nat.zero_add, Nat.min_eq_left (by omega)]
  · have emg : mg r = (2^52 + r % 2^52) * 2^(r / 2^52 - 1) := by unfold mg; rw [if_neg h1]
    have hq1 : 1 ≤ r / 2^52 := by omega
    have hlr : (mg r).log2 = 52 + (r / 2^52 - 1) := by
      rw [emg, log2_mul_pow (by omega)]
      congr 1
      rw [Nat.log2_eq_iff (by omega)]
      omega
    have e1 : max (place + (m.log2 : Int) - 52) (-1074) = -1074 + ((r / 2^52 - 1 : Nat) : Int) := by omega
    rw [e1]
    have h' : m * 2^a = (2^52 + r % 2^52) * 2^(r / 2^52 - 1 + b) := by rw [h, emg, Nat.pow_add, Nat.mul_assoc]
    have hk := mul_pow_cancel h'
    have e2 : (place - (-1074 + ((r / 2^52 - 1 : Nat) : Int))).toNat = a - (r / 2^52 - 1 + b) := by omega
    have e3 : (-1074 + ((r / 2^52 - 1 : Nat) : Int) - place).toNat = r / 2^52 - 1 + b - a := by omega
    have e4 : (-1074 + ((r / 2^52 - 1 : Nat) : Int) - -1074).toNat = r / 2^52 - 1 := by omega
    have e5 : (r / 2^52 - 1) * 2^52 + (2^52 + r % 2^52) = r := by omega
    rw [e2, e3, Nat.shiftLeft_eq, hk, cut_exact, e4, e5, Nat.min_eq_left (Nat.le_of_lt hr)]

/-- a magnitude that the format has -/
def rep (v : Nat) : Prop := ∃ r, r < 2047 * 2^52 ∧ v = mg r
theorem rep_mk (k : Nat) : ∀ c : Nat, c < 2^53 → k ≤ 2045 → rep (c * 2^k) := by
  induction k with
  | zero =>
    intro c hc _
    by_cases h : c < 2^52
    · exact ⟨c, by omega, by unfold mg; rw [if_pos h]; simp⟩
    · exact ⟨c, by omega, by
        unfold mg; rw [if_neg h, show c / 2^52 - 1 = 0 by omega]; simp; omega⟩
  | succ k ih =>
    intro c hc hk
    by_cases h : c < 2^52
    · have := ih (2 * c) (by omega) (by omega)
      rw [Nat.pow_succ, show c * (2^k * 2) = 2 * c * 2^k by rw [Nat.mul_comm (2^k), ← Nat.mul_assoc, Nat.mul_comm c]]
      exact this
    · refine ⟨(k + 2) * 2^52 + (c - 2^52), by omega, ?_⟩
      unfold mg
      rw [if_neg (by omega), show ((k + 2) * 2^52 + (c - 2^52)) / 2^52 - 1 = k + 1 by omega, show 2^52 + ((k + 2) * 2^52 + (c - 2^52)) % 2^52 = c by omega]

def K0 : Nat := 1074
theorem K0_eq : K0 = 1074 := rfl
def U : Nat := 2^K0
theorem U_pos : 0 < U := Nat.two_pow_pos _
/-- x is the whole number n -/
def isI (x : Nat) (n : Int) : Prop := fin x ∧ fv x = n * (U : Int)

theorem rep_int {n : Nat} (h : n ≤ 2^53) : rep (n * U) := by
  unfold U
  by_cases h1 : n < 2^53
  · exact rep_mk K0 n h1 (by rw [K0_eq]; omega)
  · have : n = 2^53 := by omega
    subst this
    have := rep_mk (K0 + 1) (2^52) (by decide) (by rw [K0_eq]; omega)
    rw [show (2:Nat)^53 * 2^K0 = 2^52 * 2^(K0 + 1) by rw [← Nat.pow_add, ← Nat.pow_add, show 53 + K0 = 52 + (K0 + 1) by omega]]
    exact this

theorem fin_read {x : Nat} (h : fin x) : ∃ m k : Nat, Ieee.double.read x = .number (neg x) m (-1074 + (k : Int)) ∧ fv x = Ieee.signed (neg x) m k := by
  obtain ⟨m, k, h1, h2⟩ := read_fin h
  exact ⟨m, k, h1, by unfold fv; rw [signed_eq, h2]⟩

theorem fin_word {s : Bool} {r : Nat} (h : r < 2047 * 2^52) : fin (Ieee.double.word s r) := by
  unfold fin; rw [rung_word (by omega)]; exact h

theorem opp_read {y : Nat} (h : fin y) : ∃ m k : Nat, (Ieee.double.read y).opposite = .number (!neg y) m (-1074 + (k : Int)) ∧ -fv y = Ieee.signed (!neg y) m k := by
  obtain ⟨m, k, h1, h2⟩ := fin_read h
  exact ⟨m, k, by rw [h1]; rfl, by rw [h2, signed_eq, signed_eq]; cases neg y <;> simp⟩

theorem sum_num {s t : Bool} {m n k l : Nat} : ∃ (sg : Bool) (mag c : Nat), Datum.sum (.number s m (-1074 + (k : Int))) (.number t n (-1074 + (l : Int))) = some (.number sg mag (-1074 + (c : Int))) ∧
    Ieee.signed sg mag c = Ieee.signed s m k + Ieee.signed t n l ∧ (mag * 2^c = (Ieee.signed s m k + Ieee.signed t n l).natAbs) ∧ (Ieee.signed s m k + Ieee.signed t n l = 0 → sg = (s && t)) ∧ (Ieee.signed s m k + Ieee.signed t n l ≠ 0 → sg = decide (Ieee.signed s m k + Ieee.signed t n l < 0)) := by
  have key : ∀ (c : Nat) (A B : Int), Ieee.signed s m k = A * 2^c → Ieee.signed t n l = B * 2^c → 
     let sg := if A + B = 0 then s && t else decide (A + B < 0)
     Ieee.signed sg (A+B).natAbs c = Ieee.signed s m k + Ieee.signed t n l ∧ ((A+B).natAbs * 2^c = (Ieee.signed s m k + Ieee.signed t n l).natAbs) ∧ (Ieee.signed s m k + Ieee.signed t n l = 0 → sg = (s && t)) ∧ (Ieee.signed s m k + Ieee.signed t n l ≠ 0 → sg = decide (Ieee.signed s m k + Ieee.signed t n l < 0)) := by
    intro c A B hA hB
    have hp : (0:Int) < 2^c := Int.pow_pos (by decide)
    have e : Ieee.signed s m k + Ieee.signed t n l = (A + B) * 2^c := by rw [hA, hB, Int.add_mul]
    have e0 : (A+B) * 2^c = 0 ↔ A + B = 0 := by
      constructor
      · intro h; rcases Int.mul_eq_zero.1 h with h | h
        · exact h
        · omega
      · intro h; rw [h]; simp
    have eneg : (A+B) * 2^c < 0 ↔ A + B < 0 := by
      constructor
      · intro h
        exact Decidable.byContradiction fun hn => by
          have := Int.mul_nonneg (show 0 ≤ A + B by omega) (Int.le_of_lt hp); omega
      · intro h; exact Int.mul_neg_of_neg_of_pos h hp
    rw [e]
    dsimp only
    refine ⟨?_, ?_, ?_, ?_⟩
    · rw [signed_eq]
      split
      · rename_i h
        have hz : (A+B).natAbs = 0 := by omega
        rw [hz, h]; simp
      · rw [Int.natCast_mul, Int.natCast_pow]
        by_cases hn : A + B < 0
        · rw [if_pos (by simpa using hn)]; rw [show ((A+B).natAbs : Int) = -(A+B) by omega, Int.neg_mul]; simp
        · rw [if_neg (by simpa using hn)]; rw [show ((A+B).natAbs : Int) = (A+B) by omega]; rfl
    · rw [Int.natAbs_mul]; congr 1
    · intro h; rw [if_pos (e0.1 h)]
    · intro h; rw [if_neg (fun h' => h (e0.2 h'))]; congr 1; exact propext eneg.symm
  simp only [Datum.sum]
  by_cases h : k ≤ l
  · refine ⟨_, _, k, ?_, key k (Ieee.signed s m 0) (Ieee.signed t n (l - k)) (by rw [← signed_shift, Nat.zero_add]) (by rw [← signed_shift]; congr 1; omega)⟩
    rw [show min (-1074 + (k:Int)) (-1074 + (l:Int)) = -1074 + k by omega, show (-1074 + (k:Int) - (-1074 + (k:Int))).toNat = 0 by omega, show (-1074 + (l:Int) - (-1074 + (k:Int))).toNat = l - k by omega]
  · refine ⟨_, _, l, ?_, key l (Ieee.signed s m (k - l)) (Ieee.signed t n 0) (by rw [← signed_shift]; congr 1; omega) (by rw [← signed_shift, Nat.zero_add])⟩
    rw [show min (-1074 + (k:Int)) (-1074 + (l:Int)) = -1074 + l by omega, show (-1074 + (l:Int) - (-1074 + (l:Int))).toNat = 0 by omega, show (-1074 + (k:Int) - (-1074 + (l:Int))).toNat = k - l by omega]

theorem nearest_num (s : Bool) (m : Nat) (p : Int) : num (Ieee.double.nearest s m p) ∧ Ieee.double.nearest s m p < 2^64 := by
  refine ⟨?_, Format.nearest_lt _ _ _ _⟩
  unfold Format.nearest
  split
  · unfold num; rw [rung_word (by omega)]; omega
  · dsimp only
    rw [infRung_eq]
    unfold num
    rw [rung_word (Nat.lt_of_le_of_lt (Nat.min_le_right _ _) (by omega))]
    exact Nat.min_le_right _ _

theorem add_num {x y : Nat} (hx : fin x) (hy : fin y) : ∃ z, Ieee.double.add x y = some z ∧ num z ∧ z < 2^64 := by
  obtain ⟨m, k, h1, _⟩ := fin_read hx
  obtain ⟨n, l, h2, _⟩ := fin_read hy
  obtain ⟨sg, mag, c, h3, _⟩ := @sum_num (neg x) (neg y) m n k l
  refine ⟨Ieee.double.nearest sg mag (-1074 + (c : Int)), ?_, nearest_num _ _ _⟩
  simp only [Format.add, h1, h2, h3, Option.map_some, Format.write]
theorem sub_num {x y : Nat} (hx : fin x) (hy : fin y) : ∃ z, Ieee.double.sub x y = some z ∧ num z ∧ z < 2^64 := by
  obtain ⟨m, k, h1, _⟩ := fin_read hx
  obtain ⟨n, l, h2, _⟩ := opp_read hy
  obtain ⟨sg, mag, c, h3, _⟩ := @sum_num (neg x) (!neg y) m n k l
  refine ⟨Ieee.double.nearest sg mag (-1074 + (c : Int)), ?_, nearest_num _ _ _⟩
  simp only [Format.sub, h1, h2, h3, Option.map_some, Format.write]

theorem sum_exact {s t : Bool} {m n k l r : Nat} (hr : r < 2047 * 2^52) (h : (Ieee.signed s m k + Ieee.signed t n l).natAbs = mg r) :
    ∃ z, (Datum.sum (.number s m (-1074 + (k : Int))) (.number t n (-1074 + (l : Int)))).map Ieee.double.write = some z ∧ z < 2^64 ∧ fin z ∧ fv z = Ieee.signed s m k + Ieee.signed t n l ∧ rung z = r ∧
      (Ieee.signed s m k + Ieee.signed t n l = 0 → neg z = (s && t)) := by
  obtain ⟨sg, mag, c, h3, h4, h5, h6, h7⟩ := @sum_num s t m n k l
  have e : Ieee.double.nearest sg mag (-1074 + (c : Int)) = Ieee.double.word sg r := nearest_exact (a := c) (b := 0) hr (by omega) (by rw [h5, h]; simp)
  refine ⟨Ieee.double.word sg r, ?_, word_lt (by omega), fin_word hr, ?_, rung_word (by omega), ?_⟩
  · rw [h3]; simp only [Option.map_some, Format.write, e]
  · rw [fv_word (by omega), ← h4, signed_eq, ← h, ← h5]
  · intro hz; rw [neg_word (by omega), h6 hz]

theorem add_exact {x y r : Nat} (hx : fin x) (hy : fin y) (hr : r < 2047 * 2^52) (h : (fv x + fv y).natAbs = mg r) :
    ∃ z, Ieee.double.add x y = some z ∧ z < 2^64 ∧ fin z ∧ fv z = fv x + fv y ∧ rung z = r ∧ (fv x + fv y = 0 → neg z = (neg x && neg y)) := by
  obtain ⟨m, k, h1, e1⟩ := fin_read hx
  obtain ⟨n, l, h2, e2⟩ := fin_read hy
  rw [e1, e2] at h ⊢
  simp only [Format.add, h1, h2]
  exact sum_exact hr h

theorem sub_exact {x y r : Nat} (hx : fin x) (hy : fin y) (hr : r < 2047 * 2^52) (h : (fv x - fv y).natAbs = mg r) :
    ∃ z, Ieee.double.sub x y = some z ∧ z < 2^64 ∧ fin z ∧ fv z = fv x - fv y ∧ rung z = r ∧ (fv x - fv y = 0 → neg z = (neg x && !neg y)) := by
  obtain ⟨m, k, h1, e1⟩ := fin_read hx
  obtain ⟨n, l, h2, e2⟩ := opp_read hy
  rw [Int.sub_eq_add_neg, e1, e2] at h ⊢
  simp only [Format.sub, h1, h2]
  exact sum_exact hr h

theorem U_eq : U = 2^K0 := rfl
theorem mul_exact {x y r : Nat} (hx : fin x) (hy : fin y) (hr : r < 2047 * 2^52) (h : (fv x * fv y).natAbs = mg r * U) :
    ∃ z, Ieee.double.mul x y = some z ∧ z < 2^64 ∧ fin z ∧ fv z * U = fv x * fv y ∧ rung z = r ∧ neg z = (neg x ^^ neg y) := by
  obtain ⟨m, k, h1, e1⟩ := fin_read hx
  obtain ⟨n, l, h2, e2⟩ := fin_read hy
  have hk : (K0 : Int) = 1074 := rfl
  have e : Ieee.double.nearest (neg x ^^ neg y) (m * n) (-1074 + (k : Int) + (-1074 + (l : Int))) = Ieee.double.word (neg x ^^ neg y) r := by
    refine nearest_exact (a := k + l) (b := K0) hr (by omega) ?_
    rw [← U_eq, ← h, e1, e2, signed_eq, signed_eq, Nat.pow_add]
    have e3 : m * n * (2^k * 2^l) = m * 2^k * (n * 2^l) := by
      rw [Nat.mul_assoc, Nat.mul_assoc]; congr 1; rw [← Nat.mul_assoc, Nat.mul_comm n, Nat.mul_assoc]
    rw [Int.natAbs_mul, e3]
    congr 1 <;> (split <;> simp only [Int.natAbs_neg, Int.natAbs_natCast])
  refine ⟨Ieee.double.word (neg x ^^ neg y) r, ?_, word_lt (by omega), fin_word hr, ?_, rung_word (by omega), neg_word (by omega)⟩
  · simp only [Format.mul, h1, h2, Datum.product, Option.map_some, Format.write, e]
  · rw [fv_word (by omega)]
    have h' : (mg r : Int) * U = (fv x * fv y).natAbs := by rw [h]; simp
    have hs : ∀ (s : Bool) (m k : Nat), (s = true → Ieee.signed s m k ≤ 0) ∧ (s = false → 0 ≤ Ieee.signed s m k) := by
      intro s m k; rw [signed_eq]
      have : (0 : Int) ≤ ((m * 2^k : Nat) : Int) := Int.natCast_nonneg _
      generalize ((m * 2^k : Nat) : Int) = q at *
      cases s <;> simp <;> omega
    have hx' := hs (neg x) m k
    have hy' := hs (neg y) n l
    rw [← e1] at hx'
    rw [← e2] at hy'
    have pp : ∀ (P : Int), ((P.natAbs : Int) = (mg r : Int) * U) → (0 ≤ P → (mg r : Int) * U = P) ∧ (P ≤ 0 → -(mg r : Int) * U = P) := by
      intro P hP; rw [Int.neg_mul]; omega
    have p := pp _ h'.symm
    by_cases hnx : neg x = true
    · by_cases hny : neg y = true
      · rw [hnx, hny]; exact p.1 (Int.mul_nonneg_of_nonpos_of_nonpos (hx'.1 hnx) (hy'.1 hny))
      · rw [Bool.not_eq_true] at hny
        rw [hnx, hny]; exact p.2 (Int.mul_nonpos_of_nonpos_of_nonneg (hx'.1 hnx) (hy'.2 hny))
    · rw [Bool.not_eq_true] at hnx
      by_cases hny : neg y = true
      · rw [hnx, hny]; exact p.2 (Int.mul_nonpos_of_nonneg_of_nonpos (hx'.2 hnx) (hy'.1 hny))
      · rw [Bool.not_eq_true] at hny
        rw [hnx, hny]; exact p.1 (Int.mul_nonneg (hx'.2 hnx) (hy'.2 hny))

theorem nat_rep {n : Int} (h : n.natAbs ≤ 2^53) : ∃ r, r < 2047 * 2^52 ∧ (n * (U : Int)).natAbs = mg r := by
  obtain ⟨r, h1, h2⟩ := rep_int h
  exact ⟨r, h1, by rw [Int.natAbs_mul, Int.natAbs_natCast, h2]⟩

/-! ### whole numbers -/
theorem isI_add {x y : Nat} {a b : Int} (hx : isI x a) (hy : isI y b) (h : (a + b).natAbs ≤ 2^53) : ∃ z, Ieee.double.add x y = some z ∧ z < 2^64 ∧ isI z (a + b) ∧ (a + b = 0 → neg z = (neg x && neg y)) := by
  obtain ⟨r, hr, h2⟩ := nat_rep h
  have e : fv x + fv y = (a + b) * U := by rw [hx.2, hy.2, Int.add_mul]
  obtain ⟨z, z1, z2, z3, z4, _, z5⟩ := add_exact hx.1 hy.1 hr (by rw [e]; exact h2)
  exact ⟨z, z1, z2, ⟨z3, by rw [z4, e]⟩, fun h => z5 (by rw [e, h]; simp)⟩
theorem isI_sub {x y : Nat} {a b : Int} (hx : isI x a) (hy : isI y b) (h : (a - b).natAbs ≤ 2^53) : ∃ z, Ieee.double.sub x y = some z ∧ z < 2^64 ∧ isI z (a - b) ∧ (a - b = 0 → neg z = (neg x && !neg y)) := by
  obtain ⟨r, hr, h2⟩ := nat_rep h
  have e : fv x - fv y = (a - b) * U := by rw [hx.2, hy.2, Int.sub_mul]
  obtain ⟨z, z1, z2, z3, z4, _, z5⟩ := sub_exact hx.1 hy.1 hr (by rw [e]; exact h2)
  exact ⟨z, z1, z2, ⟨z3, by rw [z4, e]⟩, fun h => z5 (by rw [e, h]; simp)⟩
theorem isI_mul {x y : Nat} {a b : Int} (hx : isI x a) (hy : isI y b) (h : (a * b).natAbs ≤ 2^53) : ∃ z, Ieee.double.mul x y = some z ∧ z < 2^64 ∧ isI z (a * b) ∧ neg z = (neg x ^^ neg y) := by
  obtain ⟨r, hr, h2⟩ := nat_rep h
  have e : fv x * fv y = (a * b * U) * U := by rw [hx.2, hy.2]; simp only [Int.mul_assoc, Int.mul_left_comm, Int.mul_comm]
  obtain ⟨z, z1, z2, z3, z4, _, z5⟩ := mul_exact hx.1 hy.1 hr (by rw [e, Int.natAbs_mul, Int.natAbs_natCast, h2])
  refine ⟨z, z1, z2, ⟨z3, ?_⟩, z5⟩
  rw [e] at z4
  exact Int.eq_of_mul_eq_mul_right (by have := U_pos; omega) z4
theorem isI_inj {x : Nat} {a b : Int} (h1 : isI x a) (h2 : isI x b) : a = b := by
  have := h1.2.symm.trans h2.2
  exact Int.eq_of_mul_eq_mul_right (by have := U_pos; omega) this
theorem isI_key_lt {x y : Nat} {a b : Int} (hx : isI x a) (hy : isI y b) : key x < key y ↔ a < b := by
  rw [← fv_lt_iff, hx.2, hy.2]
  exact Int.mul_lt_mul_right (by have := U_pos; omega)
theorem isI_key_le {x y : Nat} {a b : Int} (hx : isI x a) (hy : isI y b) : key x ≤ key y ↔ a ≤ b := by
  have := isI_key_lt hy hx; omega
theorem isI_key_eq {x y : Nat} {a b : Int} (hx : isI x a) (hy : isI y b) : key x = key y ↔ a = b := by
  have := isI_key_lt hy hx; have := isI_key_lt hx hy; omega
theorem fin_num {x : Nat} (h : fin x) : num x := Nat.le_of_lt h
/-- the word of an integer -/
def fint (n : Int) : Nat := FloatKind.f64.nearest n
theorem isI_ofInt {n : Int} (h : n.natAbs ≤ 2^53) : isI (fint n) n ∧ fint n < 2^64 ∧ neg (fint n) = decide (n < 0) := by
  obtain ⟨r, hr, h2⟩ := nat_rep h
  have hk : (K0 : Int) = 1074 := rfl
  have e : fint n = Ieee.double.word (decide (n < 0)) r := by
    show Ieee.double.nearest (decide (n < 0)) n.natAbs 0 = _
    refine nearest_exact (a := K0) (b := 0) hr (by omega) ?_
    rw [← U_eq, ← h2, Int.natAbs_mul, Int.natAbs_natCast]; simp
  rw [e]
  refine ⟨⟨fin_word hr, ?_⟩, word_lt (by omega), neg_word (by omega)⟩
  rw [fv_word (by omega), ← h2]
  have hU := U_pos
  by_cases hn : n < 0
  · rw [if_pos (by simpa using hn)]
    have := Int.mul_neg_of_neg_of_pos hn (show (0:Int) < U by omega)
    omega
  · rw [if_neg (by simpa using hn)]
    have := Int.mul_nonneg (show 0 ≤ n by omega) (show (0:Int) ≤ U by omega)
    omega

/-! ### comparisons and operations under names of their own -/
def flt (a b : Nat) : Bool := Ieee.double.order a b == some .lt
def feq (a b : Nat) : Bool := Ieee.double.order a b == some .eq
def fle (a b : Nat) : Bool := Ieee.double.order a b == some .lt || Ieee.double.order a b == some .eq
def fadd (a b : Nat) : Nat := (Ieee.double.add a b).getD 0
def fsub (a b : Nat) : Nat := (Ieee.double.sub a b).getD 0
def fmul (a b : Nat) : Nat := (Ieee.double.mul a b).getD 0
def fdiv (a b : Nat) : Nat := (Ieee.double.div a b).getD 0

theorem num_or (x : Nat) : num x ∨ ¬ num x := Classical.em _
theorem flt_num {a b : Nat} (ha : num a) (hb : num b) : flt a b = decide (key a < key b) := by
  unfold flt; rw [order_num ha hb]
  by_cases h : key a < key b
  · rw [Int.compare_eq_lt.2 h]; simp [h]
  · simp only [h, decide_false, beq_eq_false_iff_ne, ne_eq, Option.some.injEq]
    intro e; exact h (Int.compare_eq_lt.1 e)
theorem feq_num {a b : Nat} (ha : num a) (hb : num b) : feq a b = decide (key a = key b) := by
  unfold feq; rw [order_num ha hb]
  by_cases h : key a = key b
  · rw [Int.compare_eq_eq.2 h]; simp [h]
  · simp only [h, decide_false, beq_eq_false_iff_ne, ne_eq, Option.some.injEq]
    intro e; exact h (Int.compare_eq_eq.1 e)
theorem fle_num {a b : Nat} (ha : num a) (hb : num b) : fle a b = decide (key a ≤ key b) := by
  have : fle a b = (flt a b || feq a b) := rfl
  rw [this, flt_num ha hb, feq_num ha hb, ← Bool.decide_or]
  congr 1; apply propext; omega
theorem flt_nan {a b : Nat} (h : ¬ num a ∨ ¬ num b) : flt a b = false := by
  rcases h with h | h
  · unfold flt; rw [order_nan_l h]; rfl
  · unfold flt; rw [order_nan_r h]; rfl
theorem feq_nan {a b : Nat} (h : ¬ num a ∨ ¬ num b) : feq a b = false := by
  rcases h with h | h
  · unfold feq; rw [order_nan_l h]; rfl
  · unfold feq; rw [order_nan_r h]; rfl
theorem fle_nan {a b : Nat} (h : ¬ num a ∨ ¬ num b) : fle a b = false := by
  rcases h with h | h
  · unfold fle; rw [order_nan_l h]; rfl
  · unfold fle; rw [order_nan_r h]; rfl
theorem flt_iff {a b : Nat} : flt a b = true ↔ num a ∧ num b ∧ key a < key b := by
  by_cases ha : num a
  · by_cases hb : num b
    · rw [flt_num ha hb]; simp [ha, hb]
    · rw [flt_nan (.inr hb)]; simp [hb]
  · rw [flt_nan (.inl ha)]; simp [ha]
theorem fle_iff {a b : Nat} : fle a b = true ↔ num a ∧ num b ∧ key a ≤ key b := by
  by_cases ha : num a
  · by_cases hb : num b
    · rw [fle_num ha hb]; simp [ha, hb]
    · rw [fle_nan (.inr hb)]; simp [hb]
  · rw [fle_nan (.inl ha)]; simp [ha]
theorem feq_iff {a b : Nat} : feq a b = true ↔ num a ∧ num b ∧ key a = key b := by
  by_cases ha : num a
  · by_cases hb : num b
    · rw [feq_num ha hb]; simp [ha, hb]
    · rw [feq_nan (.inr hb)]; simp [hb]
  · rw [feq_nan (.inl ha)]; simp [ha]
theorem gt_flt (a b : Nat) : (Ieee.double.order a b == some .gt) = flt b a := by
  by_cases ha : num a
  · by_cases hb : num b
    · rw [flt_num hb ha, order_num ha hb]
      by_cases h : key b < key a
      · rw [Int.compare_eq_gt.2 h]; simp [h]
      · simp only [h, decide_false, beq_eq_false_iff_ne, ne_eq, Option.some.injEq]
        intro e; exact h (Int.compare_eq_gt.1 e)
    · rw [flt_nan (.inl hb), order_nan_r hb]; rfl
  · rw [flt_nan (.inr ha), order_nan_l ha]; rfl
theorem eq_feq (a b : Nat) : (Ieee.double.order a b == some .eq) = feq b a := by
  rw [Bool.eq_iff_iff, feq_iff]
  show feq a b = true ↔ _
  rw [feq_iff]; exact ⟨fun ⟨h1, h2, h3⟩ => ⟨h2, h1, h3.symm⟩, fun ⟨h1, h2, h3⟩ => ⟨h2, h1, h3.symm⟩⟩
theorem feq_comm (a b : Nat) : feq a b = feq b a := eq_feq a b

@[go_sem] theorem cmp_eql (t : TypeId) (a b : Nat) : binOp .eql t (.float .f64 a) (.float .f64 b) = pure (.bool (feq a b)) := by simp [binOp, Op.floatCmp]; rfl
@[go_sem] theorem cmp_neq (t : TypeId) (a b : Nat) : binOp .neq t (.float .f64 a) (.float .f64 b) = pure (.bool (!feq a b)) := by simp [binOp, Op.floatCmp]; rfl
@[go_sem] theorem cmp_lss (t : TypeId) (a b : Nat) : binOp .lss t (.float .f64 a) (.float .f64 b) = pure (.bool (flt a b)) := by simp [binOp, Op.floatCmp]; rfl
@[go_sem] theorem cmp_leq (t : TypeId) (a b : Nat) : binOp .leq t (.float .f64 a) (.float .f64 b) = pure (.bool (fle a b)) := by simp [binOp, Op.floatCmp]; rfl
@[go_sem] theorem cmp_gtr (t : TypeId) (a b : Nat) : binOp .gtr t (.float .f64 a) (.float .f64 b) = pure (.bool (flt b a)) := by
  rw [← gt_flt]; simp [binOp, Op.floatCmp]; rfl
@[go_sem] theorem cmp_geq (t : TypeId) (a b : Nat) : binOp .geq t (.float .f64 a) (.float .f64 b) = pure (.bool (fle b a)) := by
  have : fle b a = (Ieee.double.order a b == some .gt || Ieee.double.order a b == some .eq) := by
    rw [gt_flt, eq_feq]; rfl
  rw [this]; simp [binOp, Op.floatCmp]; rfl
@[go_sem] theorem run_equalIn_f64 {P : Program} {w : World} (d : Nat) (t : TypeId) (k : FloatKind) (a b : Nat) (h : P.underlying t = some (.float k)) : (Op.equalIn (d + 1) t (.float .f64 a) (.float .f64 b)).run P w = .ok (feq a b) w := by
  simp [Op.equalIn, run_underlying h]; rfl
@[go_sem] theorem conv_int {P : Program} (w : World) (src dst : TypeId) (q : IntKind) (n : Int) (hs : (P.underlying src).isSome = true) (hd : P.underlying dst = some (.float .f64)) :
    (convert src dst (.int q n)).run P w = .ok (.float .f64 (fint n)) w := by
  obtain ⟨s, hs'⟩ := Option.isSome_iff_exists.1 hs
  cases s <;> simp [convert, run_underlying hs', run_underlying hd, Conv.intToFloat, fint]

@[go_sem] theorem store_float (P : Program) (w : World) (a : Addr) (m : Mode) (k : FloatKind) (b : Nat) : (store a (.float k b) m).run P w = stored P w a (.float k b) m := run_store P w a _ m rfl

theorem fadd_of {a b : Nat} (ha : fin a) (hb : fin b) : Ieee.double.add a b = some (fadd a b) := by
  obtain ⟨z, hz, _⟩ := add_num ha hb; unfold fadd; rw [hz]; rfl
theorem fsub_of {a b : Nat} (ha : fin a) (hb : fin b) : Ieee.double.sub a b = some (fsub a b) := by
  obtain ⟨z, hz, _⟩ := sub_num ha hb; unfold fsub; rw [hz]; rfl
theorem mul_num {x y : Nat} (hx : fin x) (hy : fin y) : ∃ z, Ieee.double.mul x y = some z ∧ num z ∧ z < 2^64 := by
  obtain ⟨m, k, h1, _⟩ := fin_read hx
  obtain ⟨n, l, h2, _⟩ := fin_read hy
  refine ⟨_, by simp only [Format.mul, h1, h2, Datum.product, Option.map_some, Format.write]; rfl, nearest_num _ _ _⟩
theorem fmul_of {a b : Nat} (ha : fin a) (hb : fin b) : Ieee.double.mul a b = some (fmul a b) := by
  obtain ⟨z, hz, _⟩ := mul_num ha hb; unfold fmul; rw [hz]; rfl
theorem num_fadd {a b : Nat} (ha : fin a) (hb : fin b) : num (fadd a b) := by obtain ⟨z, hz, h, _⟩ := add_num ha hb; unfold fadd; rw [hz]; exact h
theorem num_fsub {a b : Nat} (ha : fin a) (hb : fin b) : num (fsub a b) := by obtain ⟨z, hz, h, _⟩ := sub_num ha hb; unfold fsub; rw [hz]; exact h
theorem num_fmul {a b : Nat} (ha : fin a) (hb : fin b) : num (fmul a b) := by obtain ⟨z, hz, h, _⟩ := mul_num ha hb; unfold fmul; rw [hz]; exact h
theorem lt_fadd (a b : Nat) : fadd a b < 2^64 := by
  unfold fadd; cases h : Ieee.double.add a b with
  | none => simp
  | some z => exact Format.add_lt _ h
theorem lt_fsub (a b : Nat) : fsub a b < 2^64 := by
  unfold fsub; cases h : Ieee.double.sub a b with
  | none => simp
  | some z => exact Format.sub_lt _ h
theorem lt_fmul (a b : Nat) : fmul a b < 2^64 := by
  unfold fmul; cases h : Ieee.double.mul a b with
  | none => simp
  | some z => exact Format.mul_lt _ h
@[go_sem] theorem run_fadd {P : Program} {w : World} {t : TypeId} {a b : Nat} (ha : fin a) (hb : fin b) : (binOp .add t (.float .f64 a) (.float .f64 b)).run P w = .ok (.float .f64 (fadd a b)) w := by
  have h : FloatKind.f64.format.add a b = some (fadd a b) := fadd_of ha hb
  simp [binOp, Op.floatArith, h]
@[go_sem] theorem run_fsub {P : Program} {w : World} {t : TypeId} {a b : Nat} (ha : fin a) (hb : fin b) : (binOp .sub t (.float .f64 a) (.float .f64 b)).run P w = .ok (.float .f64 (fsub a b)) w := by
  have h : FloatKind.f64.format.sub a b = some (fsub a b) := fsub_of ha hb
  simp [binOp, Op.floatArith, h]
@[go_sem] theorem run_fmul {P : Program} {w : World} {t : TypeId} {a b : Nat} (ha : fin a) (hb : fin b) : (binOp .mul t (.float .f64 a) (.float .f64 b)).run P w = .ok (.float .f64 (fmul a b)) w := by
  have h : FloatKind.f64.format.mul a b = some (fmul a b) := fmul_of ha hb
  simp [binOp, Op.floatArith, h]

theorem isI_fadd {x y : Nat} {a b : Int} (hx : isI x a) (hy : isI y b) (h : (a + b).natAbs ≤ 2^53) : isI (fadd x y) (a + b) := by
  obtain ⟨z, hz, _, h2, _⟩ := isI_add hx hy h; unfold fadd; rw [hz]; exact h2
theorem isI_fsub {x y : Nat} {a b : Int} (hx : isI x a) (hy : isI y b) (h : (a - b).natAbs ≤ 2^53) : isI (fsub x y) (a - b) := by
  obtain ⟨z, hz, _, h2, _⟩ := isI_sub hx hy h; unfold fsub; rw [hz]; exact h2
theorem isI_fmul {x y : Nat} {a b : Int} (hx : isI x a) (hy : isI y b) (h : (a * b).natAbs ≤ 2^53) : isI (fmul x y) (a * b) := by
  obtain ⟨z, hz, _, h2, _⟩ := isI_mul hx hy h; unfold fmul; rw [hz]; exact h2
theorem isI_flt {x y : Nat} {a b : Int} (hx : isI x a) (hy : isI y b) : flt x y = decide (a < b) := by
  rw [flt_num (fin_num hx.1) (fin_num hy.1)]; congr 1; exact propext (isI_key_lt hx hy)
theorem isI_fle {x y : Nat} {a b : Int} (hx : isI x a) (hy : isI y b) : fle x y = decide (a ≤ b) := by
  rw [fle_num (fin_num hx.1) (fin_num hy.1)]; congr 1; exact propext (isI_key_le hx hy)
theorem isI_feq {x y : Nat} {a b : Int} (hx : isI x a) (hy : isI y b) : feq x y = decide (a = b) := by
  rw [feq_num (fin_num hx.1) (fin_num hy.1)]; congr 1; exact propext (isI_key_eq hx hy)
theorem feq_self {x : Nat} (h : num x) : feq x x = true := by rw [feq_num h h]; simp

/-! ### whole numbers by truncation -/
def ftrunc (x : Nat) : Nat := Ieee.double.write ((Ieee.double.read x).integral .zero)
theorem num_ftrunc {x : Nat} (h : num x) : num (ftrunc x) := by
  unfold ftrunc
  by_cases hf : fin x
  · obtain ⟨m, k, h1, _⟩ := fin_read hf
    rw [h1]; exact (nearest_num _ _ _).1
  · have e : rung x = 2047 * 2^52 := by unfold num at h; unfold fin at hf; omega
    rw [read_inf e]
    show num (Ieee.double.word _ _)
    unfold num; rw [rung_word (by rw [infRung_eq]; omega), infRung_eq]; exact Nat.le_refl _
theorem cut_zero (s : Bool) (n d : Nat) : Toward.zero.cut s n d = n / 2^d := by
  unfold Toward.cut
  simp only [Nat.shiftLeft_eq, Nat.one_mul, Bool.toNat_false, Nat.add_zero]
  by_cases h : d ≤ n.log2 + 2
  · rw [Nat.min_eq_left h]
  · rw [Nat.min_eq_right (by omega)]
    have h1 := @Nat.lt_log2_self n
    have h2 : n < 2^(n.log2 + 2) := Nat.lt_of_lt_of_le h1 (Nat.pow_le_pow_right (by omega) (by omega))
    have h3 : n < 2^d := Nat.lt_of_lt_of_le h2 (Nat.pow_le_pow_right (by omega) (by omega))
    rw [Nat.div_eq_of_lt h2, Nat.div_eq_of_lt h3]
/-- a number between two whole ones that is what it is cut to is whole -/
theorem whole_of_trunc {x : Nat} {b : Nat} (hb : b ≤ 2^52) (h : fin x) (hlo : -((b : Int) * U) ≤ fv x) (hhi : fv x ≤ (b : Int) * U) (ht : feq x (ftrunc x) = true) : ∃ n : Int, isI x n ∧ -(b : Int) ≤ n ∧ n ≤ b := by
  obtain ⟨m, k, h1, h2⟩ := fin_read h
  have hU := U_pos
  have hk0 : (K0 : Int) = 1074 := rfl
  have hm : m * 2^k ≤ b * U := by
    have hz : (0:Int) ≤ ((m * 2^k : Nat) : Int) := Int.natCast_nonneg _
    have : ((m * 2^k : Nat) : Int) ≤ ((b * U : Nat) : Int) := by
      rw [h2, signed_eq] at hlo hhi
      rw [Int.natCast_mul b U]
      generalize ((m * 2^k : Nat) : Int) = q at *
      split at hlo <;> simp_all <;> omega
    omega
  obtain ⟨_, hn2, heq⟩ := feq_iff.1 ht
  have hkey : fv x = fv (ftrunc x) := by have h3 := @fv_lt_iff x (ftrunc x); have h4 := @fv_lt_iff (ftrunc x) x; omega
  -- what it is cut to
  have e0 : ftrunc x = Ieee.double.nearest (neg x) ((m <<< (-1074 + (k : Int)).toNat) / 2 ^ (-(-1074 + (k : Int))).toNat) 0 := by
    unfold ftrunc; rw [h1]; simp only [Datum.integral, Format.write, cut_zero]
  generalize hq : (m <<< (-1074 + (k : Int)).toNat) / 2 ^ (-(-1074 + (k : Int))).toNat = q at e0
  have hqb : q ≤ b := by
    rw [← hq, Nat.shiftLeft_eq]
    by_cases hk : K0 ≤ k
    · have e1 : (-(-1074 + (k : Int))).toNat = 0 := by omega
      have e2 : (-1074 + (k : Int)).toNat = k - K0 := by omega
      rw [e1, e2, Nat.pow_zero, Nat.div_one]
      have : m * 2^(k - K0) * U ≤ b * U := by
        rw [U_eq, Nat.mul_assoc, ← Nat.pow_add, show k - K0 + K0 = k by omega, ← U_eq]; exact hm
      exact Nat.le_of_mul_le_mul_right this hU
    · have e1 : (-(-1074 + (k : Int))).toNat = K0 - k := by omega
      have e2 : (-1074 + (k : Int)).toNat = 0 := by omega
      rw [e1, e2, Nat.pow_zero, Nat.mul_one]
      refine Nat.div_le_of_le_mul ?_
      have : m * 2^k ≤ (2^(K0 - k) * b) * 2^k := by
        have e3 : 2^(K0 - k) * b * 2^k = b * U := by
          rw [Nat.mul_comm (2^(K0-k)) b, Nat.mul_assoc, ← Nat.pow_add, show K0 - k + k = K0 by omega, ← U_eq]
        rw [e3]; exact hm
      exact Nat.le_of_mul_le_mul_right this (Nat.two_pow_pos k)
  obtain ⟨r, hr, h5⟩ := rep_int (show q ≤ 2^53 by omega)
  have e1 : ftrunc x = Ieee.double.word (neg x) r := by
    rw [e0]; exact nearest_exact (a := K0) (b := 0) hr (by omega) (by rw [← U_eq, h5]; simp)
  refine ⟨if neg x then -(q : Int) else q, ⟨h, ?_⟩, ?_, ?_⟩
  · rw [hkey, e1, fv_word (by omega), ← h5, Int.natCast_mul]
    split
    · rw [Int.neg_mul]
    · rfl
  · split <;> omega
  · split <;> omega
theorem trunc_of_isI {x : Nat} {n : Int} (hx : isI x n) (h : n.natAbs ≤ 2^52) : feq x (ftrunc x) = true := by
  obtain ⟨m, k, h1, h2⟩ := fin_read hx.1
  have hU := U_pos
  have hk0 : (K0 : Int) = 1074 := rfl
  have hm : m * 2^k = n.natAbs * U := by
    have := hx.2
    rw [h2, signed_eq] at this
    have h3 : ((m * 2^k : Nat) : Int).natAbs = (n * (U : Int)).natAbs := by
      split at this
      · rw [← this, Int.natAbs_neg]
      · rw [← this]
    rw [Int.natAbs_natCast, Int.natAbs_mul, Int.natAbs_natCast] at h3
    exact h3
  have e0 : ftrunc x = Ieee.double.nearest (neg x) ((m <<< (-1074 + (k : Int)).toNat) / 2 ^ (-(-1074 + (k : Int))).toNat) 0 := by
    unfold ftrunc; rw [h1]; simp only [Datum.integral, Format.write, cut_zero]
  have hq : (m <<< (-1074 + (k : Int)).toNat) / 2 ^ (-(-1074 + (k : Int))).toNat = n.natAbs := by
    rw [Nat.shiftLeft_eq]
    by_cases hk : K0 ≤ k
    · have e1 : (-(-1074 + (k : Int))).toNat = 0 := by omega
      have e2 : (-1074 + (k : Int)).toNat = k - K0 := by omega
      rw [e1, e2, Nat.pow_zero, Nat.div_one]
      have : m * 2^(k - K0) * U = n.natAbs * U := by
        rw [U_eq, Nat.mul_assoc, ← Nat.pow_add, show k - K0 + K0 = k by omega, ← U_eq]; exact hm
      exact Nat.eq_of_mul_eq_mul_right hU this
    · have e1 : (-(-1074 + (k : Int))).toNat = K0 - k := by omega
      have e2 : (-1074 + (k : Int)).toNat = 0 := by omega
      rw [e1, e2, Nat.pow_zero, Nat.mul_one]
      have : m * 2^k = (n.natAbs * 2^(K0 - k)) * 2^k := by
        rw [Nat.mul_assoc, ← Nat.pow_add, show K0 - k + k = K0 by omega, ← U_eq]; exact hm
      rw [Nat.eq_of_mul_eq_mul_right (Nat.two_pow_pos k) this, Nat.mul_div_cancel _ (Nat.two_pow_pos _)]
  rw [hq] at e0
  obtain ⟨r, hr, h5⟩ := rep_int (show n.natAbs ≤ 2^53 by omega)
  have e1 : ftrunc x = Ieee.double.word (neg x) r := by
    rw [e0]; exact nearest_exact (a := K0) (b := 0) hr (by omega) (by rw [← U_eq, h5]; simp)
  have hf : fin (ftrunc x) := by rw [e1]; exact fin_word hr
  have hv : fv (ftrunc x) = fv x := by
    rw [e1, fv_word (by omega), h2, signed_eq, hm, ← h5]
  rw [feq_num (fin_num hx.1) (fin_num hf)]
  have h3 := @fv_lt_iff x (ftrunc x); have h4 := @fv_lt_iff (ftrunc x) x
  simp; omega
def wholeIn (lo hi x : Nat) : Bool := feq x (ftrunc x) && fle lo x && fle x hi
theorem wholeIn_iff {lo hi x b : Nat} (hb : b ≤ 2^52) (hlo : isI lo (-(b : Int))) (hhi : isI hi b) : wholeIn lo hi x = true ↔ ∃ n : Int, isI x n ∧ -(b : Int) ≤ n ∧ n ≤ b := by
  unfold wholeIn
  rw [Bool.and_eq_true, Bool.and_eq_true]
  constructor
  · rintro ⟨⟨h1, h2⟩, h3⟩
    obtain ⟨_, hx, k1⟩ := fle_iff.1 h2
    obtain ⟨_, _, k2⟩ := fle_iff.1 h3
    have f1 := @fv_lt_iff x lo
    have f2 := @fv_lt_iff hi x
    have hf : fin x := by
      unfold fin
      unfold num at hx
      have a1 := hlo.1; have a2 := hhi.1
      unfold fin at a1 a2
      unfold key at k1 k2
      by_cases hnx : neg x = true
      · rw [if_pos hnx] at k1 k2
        split at k1 <;> omega
      · rw [if_neg hnx] at k1 k2
        split at k2 <;> omega
    refine whole_of_trunc hb hf ?_ ?_ h1
    · rw [← Int.neg_mul, ← hlo.2]; omega
    · rw [← hhi.2]; omega
  · rintro ⟨n, hn, h1, h2⟩
    exact ⟨⟨trunc_of_isI hn (by omega), by rw [isI_fle hlo hn]; simpa using h1⟩, by rw [isI_fle hn hhi]; simpa using h2⟩
/-- the word of a whole number, by its rung -/
theorem isI_lit {x : Nat} {n : Int} (h : x = fint n) (hn : n.natAbs ≤ 2^53) : isI x n := by rw [h]; exact (isI_ofInt hn).1

/-! ### the built-ins max and min -/
def bmax (a b : Nat) : Nat := if flt a b then b else if flt b a then a else if neg a then b else a
def bmin (a b : Nat) : Nat := if flt a b then a else if flt b a then b else if neg a then a else b
theorem bmax_or (a b : Nat) : bmax a b = a ∨ bmax a b = b := by
  unfold bmax; split
  · exact .inr rfl
  · split
    · exact .inl rfl
    · split
      · exact .inr rfl
      · exact .inl rfl
theorem bmin_or (a b : Nat) : bmin a b = a ∨ bmin a b = b := by
  unfold bmin; split
  · exact .inl rfl
  · split
    · exact .inr rfl
    · split
      · exact .inl rfl
      · exact .inr rfl
theorem num_bmax {a b : Nat} (ha : num a) (hb : num b) : num (bmax a b) := by rcases bmax_or a b with h | h <;> rw [h] <;> assumption
theorem num_bmin {a b : Nat} (ha : num a) (hb : num b) : num (bmin a b) := by rcases bmin_or a b with h | h <;> rw [h] <;> assumption
theorem fin_bmax {a b : Nat} (ha : fin a) (hb : fin b) : fin (bmax a b) := by rcases bmax_or a b with h | h <;> rw [h] <;> assumption
theorem fin_bmin {a b : Nat} (ha : fin a) (hb : fin b) : fin (bmin a b) := by rcases bmin_or a b with h | h <;> rw [h] <;> assumption
theorem key_bmax {a b : Nat} (ha : num a) (hb : num b) : key (bmax a b) = max (key a) (key b) := by
  unfold bmax
  rw [flt_num ha hb, flt_num hb ha]
  by_cases h1 : key a < key b
  · rw [if_pos (by simpa using h1)]; omega
  · rw [if_neg (by simpa using h1)]
    by_cases h2 : key b < key a
    · rw [if_pos (by simpa using h2)]; omega
    · rw [if_neg (by simpa using h2)]; split <;> omega
theorem key_bmin {a b : Nat} (ha : num a) (hb : num b) : key (bmin a b) = min (key a) (key b) := by
  unfold bmin
  rw [flt_num ha hb, flt_num hb ha]
  by_cases h1 : key a < key b
  · rw [if_pos (by simpa using h1)]; omega
  · rw [if_neg (by simpa using h1)]
    by_cases h2 : key b < key a
    · rw [if_pos (by simpa using h2)]; omega
    · rw [if_neg (by simpa using h2)]; split <;> omega
theorem neg_decode (x : Nat) (h : num x) : (FloatKind.f64.decode x).neg = neg x := by
  show (Ieee.double.read x).neg = neg x
  unfold num at h
  by_cases h1 : rung x < 2^52
  · rw [read_sub h1]; rfl
  · by_cases h2 : rung x < 2047 * 2^52
    · rw [read_norm (by omega) h2]; rfl
    · rw [read_inf (by omega)]; rfl
theorem max2_f {a b : Nat} (ha : num a) (hb : num b) : Builtin.max2 (.float .f64 a) (.float .f64 b) = pure (.float .f64 (bmax a b)) := by
  have ho : FloatKind.f64.format.order a b = some (compare (key a) (key b)) := order_num ha hb
  have e1 := flt_num ha hb
  have e2 := flt_num hb ha
  rcases Int.lt_trichotomy (key a) (key b) with h | h | h
  · have e : bmax a b = b := by unfold bmax; rw [e1]; simp [h]
    rw [Int.compare_eq_lt.2 h] at ho
    rw [e]; simp only [Builtin.max2, ho]
  · have e : bmax a b = if neg a then b else a := by unfold bmax; rw [e1, e2]; simp [h]
    rw [Int.compare_eq_eq.2 h] at ho
    rw [e]; simp only [Builtin.max2, ho, neg_decode a ha]
  · have e : bmax a b = a := by unfold bmax; rw [e1, e2]; simp [h]; omega
    rw [Int.compare_eq_gt.2 h] at ho
    rw [e]; simp only [Builtin.max2, ho]
theorem min2_f {a b : Nat} (ha : num a) (hb : num b) : Builtin.min2 (.float .f64 a) (.float .f64 b) = pure (.float .f64 (bmin a b)) := by
  have ho : FloatKind.f64.format.order a b = some (compare (key a) (key b)) := order_num ha hb
  have e1 := flt_num ha hb
  have e2 := flt_num hb ha
  rcases Int.lt_trichotomy (key a) (key b) with h | h | h
  · have e : bmin a b = a := by unfold bmin; rw [e1]; simp [h]
    rw [Int.compare_eq_lt.2 h] at ho
    rw [e]; simp only [Builtin.min2, ho]
  · have e : bmin a b = if neg a then a else b := by unfold bmin; rw [e1, e2]; simp [h]
    rw [Int.compare_eq_eq.2 h] at ho
    rw [e]; simp only [Builtin.min2, ho, neg_decode a ha]
  · have e : bmin a b = b := by unfold bmin; rw [e1, e2]; simp [h]; omega
    rw [Int.compare_eq_gt.2 h] at ho
    rw [e]; simp only [Builtin.min2, ho]
@[go_sem] theorem run_max_f2 {P : Program} {w : World} (ts : Array TypeId) (t : TypeId) {a b : Nat} (ha : num a) (hb : num b) : (Builtin.max_ ts t #[.float .f64 a, .float .f64 b]).run P w = .ok (.float .f64 (bmax a b)) w := by
  simp [Builtin.max_, max2_f ha hb]
@[go_sem] theorem run_min_f2 {P : Program} {w : World} (ts : Array TypeId) (t : TypeId) {a b : Nat} (ha : num a) (hb : num b) : (Builtin.min_ ts t #[.float .f64 a, .float .f64 b]).run P w = .ok (.float .f64 (bmin a b)) w := by
  simp [Builtin.min_, min2_f ha hb]
@[go_sem] theorem run_max_f3 {P : Program} {w : World} (ts : Array TypeId) (t : TypeId) {a b c : Nat} (ha : num a) (hb : num b) (hc : num c) : (Builtin.max_ ts t #[.float .f64 a, .float .f64 b, .float .f64 c]).run P w = .ok (.float .f64 (bmax (bmax a b) c)) w := by
  simp [Builtin.max_, max2_f ha hb, max2_f (num_bmax ha hb) hc]
@[go_sem] theorem run_max_f4 {P : Program} {w : World} (ts : Array TypeId) (t : TypeId) {a b c d : Nat} (ha : num a) (hb : num b) (hc : num c) (hd : num d) : (Builtin.max_ ts t #[.float .f64 a, .float .f64 b, .float .f64 c, .float .f64 d]).run P w = .ok (.float .f64 (bmax (bmax (bmax a b) c) d)) w := by
  simp [Builtin.max_, max2_f ha hb, max2_f (num_bmax ha hb) hc, max2_f (num_bmax (num_bmax ha hb) hc) hd]

/-! ### rounding keeps order -/
theorem cut_ge {s : Bool} {n d t : Nat} (h : t * 2^d ≤ n) : t ≤ Toward.even.cut s n d := by
  unfold Toward.cut
  simp only [Nat.shiftLeft_eq, Nat.one_mul]
  refine Nat.le_trans ?_ (Nat.le_add_right _ _)
  by_cases hd : d ≤ n.log2 + 2
  · rw [Nat.min_eq_left hd]; exact (Nat.le_div_iff_mul_le (Nat.two_pow_pos _)).2 h
  · rw [Nat.min_eq_right (by omega)]
    have h1 := @Nat.lt_log2_self n
    have h2 : n < 2^d := Nat.lt_of_lt_of_le h1 (Nat.pow_le_pow_right (by omega) (by omega))
    have : t = 0 := by
      rcases Nat.eq_zero_or_pos t with h0 | h0
      · exact h0
      · have := Nat.le_mul_of_pos_left (2^d) h0; omega
    rw [this]; exact Nat.zero_le _
theorem cut_le {s : Bool} {n d t : Nat} (h : n ≤ t * 2^d) : Toward.even.cut s n d ≤ t := by
  unfold Toward.cut
  simp only [Nat.shiftLeft_eq, Nat.one_mul]
  by_cases hd : d ≤ n.log2 + 2
  · rw [Nat.min_eq_left hd]
    have hp := Nat.two_pow_pos d
    have hdm := Nat.div_add_mod n (2^d)
    have hlt := Nat.mod_lt n hp
    generalize n / 2^d = q at *
    generalize n % 2^d = r at *
    generalize 2^d = g at *
    by_cases hr : r = 0
    · subst hr
      have hq : q ≤ t := by
        have : g * q ≤ g * t := by rw [Nat.mul_comm g t]; omega
        exact Nat.le_of_mul_le_mul_left this hp
      have e1 : (decide (g < 2 * 0) || g == 2 * 0 && q % 2 == 1) = false := by
        have : ¬ g = 0 := by omega
        simp [this]
      rw [e1]; simpa using hq
    · have hq : q < t := by
        rcases Nat.lt_or_ge q t with h1 | h1
        · exact h1
        · have : t * g ≤ q * g := Nat.mul_le_mul_right _ h1
          rw [Nat.mul_comm q g] at this
          omega
      have : ∀ b : Bool, b.toNat ≤ 1 := fun b => by cases b <;> simp
      have := this (decide (g < 2 * r) || g == 2 * r && q % 2 == 1)
      omega
  · rw [Nat.min_eq_right (by omega)]
    have h1 := @Nat.lt_log2_self n
    have h2 : 2 * n < 2^(n.log2 + 2) := by rw [Nat.pow_succ]; omega
    have h3 : n < 2^(n.log2 + 2) := by omega
    rw [Nat.div_eq_of_lt h3, Nat.mod_eq_of_lt h3]
    have e1 : (decide (2^(n.log2 + 2) < 2 * n) || 2^(n.log2 + 2) == 2 * n && (0:Nat) % 2 == 1) = false := by
      have a1 : ¬ 2^(n.log2 + 2) < 2 * n := by omega
      simp [a1]
    rw [e1]; simp
theorem scale_le {m t a c : Nat} : t * 2^(c - a) ≤ m * 2^(a - c) ↔ t * 2^c ≤ m * 2^a := by
  by_cases h : a ≤ c
  · obtain ⟨d, rfl⟩ := Nat.exists_eq_add_of_le h
    rw [show a - (a + d) = 0 by omega, show a + d - a = d by omega, Nat.pow_zero, Nat.mul_one, Nat.pow_add, show t * (2^a * 2^d) = (t * 2^d) * 2^a by rw [Nat.mul_comm (2^a), Nat.mul_assoc]]
    exact ⟨fun h => Nat.mul_le_mul_right _ h, fun h => Nat.le_of_mul_le_mul_right h (Nat.two_pow_pos a)⟩
  · obtain ⟨d, rfl⟩ := Nat.exists_eq_add_of_le (Nat.le_of_not_le h)
    rw [show c - (c + d) = 0 by omega, show c + d - c = d by omega, Nat.pow_zero, Nat.mul_one, Nat.pow_add, show m * (2^c * 2^d) = (m * 2^d) * 2^c by rw [Nat.mul_comm (2^c), Nat.mul_assoc]]
    exact ⟨fun h => Nat.mul_le_mul_right _ h, fun h => Nat.le_of_mul_le_mul_right h (Nat.two_pow_pos c)⟩
theorem scale_ge {m t a c : Nat} : m * 2^(a - c) ≤ t * 2^(c - a) ↔ m * 2^a ≤ t * 2^c := by
  by_cases h : a ≤ c
  · obtain ⟨d, rfl⟩ := Nat.exists_eq_add_of_le h
    rw [show a - (a + d) = 0 by omega, show a + d - a = d by omega, Nat.pow_zero, Nat.mul_one, Nat.pow_add, show t * (2^a * 2^d) = (t * 2^d) * 2^a by rw [Nat.mul_comm (2^a), Nat.mul_assoc]]
    exact ⟨fun h => Nat.mul_le_mul_right _ h, fun h => Nat.le_of_mul_le_mul_right h (Nat.two_pow_pos a)⟩
  · obtain ⟨d, rfl⟩ := Nat.exists_eq_add_of_le (Nat.le_of_not_le h)
    rw [show c - (c + d) = 0 by omega, show c + d - c = d by omega, Nat.pow_zero, Nat.mul_one, Nat.pow_add, show m * (2^c * 2^d) = (m * 2^d) * 2^c by rw [Nat.mul_comm (2^c), Nat.mul_assoc]]
    exact ⟨fun h => Nat.mul_le_mul_right _ h, fun h => Nat.le_of_mul_le_mul_right h (Nat.two_pow_pos c)⟩

/-- magnitudes by binade: L and a significand of up to 2^53 -/
theorem mg_at {L k : Nat} (hk : k ≤ 2^53) (h : L = 0 ∨ 2^52 ≤ k) : mg (L * 2^52 + k) = k * 2^L := by
  unfold mg
  by_cases h1 : L * 2^52 + k < 2^52
  · rw [if_pos h1]
    have : L = 0 := by omega
    subst this; simp
  · rw [if_neg h1]
    by_cases h2 : k = 2^53
    · subst h2
      rw [show (L * 2^52 + 2^53) / 2^52 - 1 = L + 1 by omega, show 2^52 + (L * 2^52 + 2^53) % 2^52 = 2^52 by omega, Nat.pow_succ 2 L, show (2:Nat)^53 = 2^52 * 2 from rfl, Nat.mul_assoc, Nat.mul_comm 2]
    · have hk2 : 2^52 ≤ k := by omega
      rw [show (L * 2^52 + k) / 2^52 - 1 = L by omega, show 2^52 + (L * 2^52 + k) % 2^52 = k by omega]
/-- the rung of what is nearest, before it is cut at infinity -/
theorem nearest_form {s : Bool} {m a b : Nat} {place : Int} (hm : m ≠ 0) (hp : place = -1074 + (a : Int) - (b : Int)) :
    ∃ L k, Ieee.double.nearest s m place = Ieee.double.word s (min (L * 2^52 + k) (2047 * 2^52)) ∧ k ≤ 2^53 ∧ (L = 0 ∨ 2^52 ≤ k) ∧ (0 < L → 2^52 * 2^(b + L) ≤ m * 2^a) ∧
      (∀ t, t * 2^(b + L) ≤ m * 2^a → t ≤ k) ∧ (∀ t, m * 2^a ≤ t * 2^(b + L) → k ≤ t) := by
  have hlog1 := Nat.log2_self_le hm
  have hlog2 := @Nat.lt_log2_self m
  have ef : (Ieee.double.fractionBits : Int) = 52 := rfl
  obtain ⟨L, hL⟩ : ∃ L : Nat, max (place + (m.log2 : Int) - 52) (-1074) = -1074 + (L : Int) := ⟨(max (place + (m.log2 : Int) - 52) (-1074) + 1074).toNat, by omega⟩
  have e2 : (place - (-1074 + (L : Int))).toNat = a - (b + L) := by omega
  have e3 : ((-1074 + (L : Int)) - place).toNat = b + L - a := by omega
  have e4 : (-1074 + (L : Int) - -1074).toNat = L := by omega
  -- the value against powers of two
  have hup : m * 2^a < 2^53 * 2^(b + L) := by
    have : m.log2 + 1 + a ≤ 53 + (b + L) := by omega
    calc m * 2^a < 2^(m.log2 + 1) * 2^a := Nat.mul_lt_mul_of_pos_right hlog2 (Nat.two_pow_pos _)
      _ = 2^(m.log2 + 1 + a) := by rw [← Nat.pow_add]
      _ ≤ 2^(53 + (b + L)) := Nat.pow_le_pow_right (by omega) this
      _ = _ := by rw [Nat.pow_add]
  have hlo : 0 < L → 2^52 * 2^(b + L) ≤ m * 2^a := by
    intro h0
    have : m.log2 + a = 52 + (b + L) := by omega
    calc 2^52 * 2^(b + L) = 2^(52 + (b + L)) := by rw [← Nat.pow_add]
      _ = 2^(m.log2 + a) := by rw [this]
      _ = 2^m.log2 * 2^a := by rw [Nat.pow_add]
      _ ≤ _ := Nat.mul_le_mul_right _ hlog1
  refine ⟨L, Toward.even.cut s (m * 2^(a - (b + L))) (b + L - a), ?_, ?_, ?_, hlo, ?_, ?_⟩
  · unfold Format.nearest
    rw [if_neg hm]
    dsimp only
    rw [ef, leastPlace_eq, binade_eq, infRung_eq, hL, e2, e3, e4, Nat.shiftLeft_eq]
  · exact cut_le (scale_ge.2 (Nat.le_of_lt hup))
  · rcases Nat.eq_zero_or_pos L with h0 | h0
    · exact .inl h0
    · exact .inr (cut_ge (scale_le.2 (hlo h0)))
  · exact fun t ht => cut_ge (scale_le.2 ht)
  · exact fun t ht => cut_le (scale_ge.2 ht)
theorem nearest_ge {s : Bool} {m a b r : Nat} {place : Int} (hp : place = -1074 + (a : Int) - (b : Int)) (hr : r ≤ 2047 * 2^52) (h : mg r * 2^b ≤ m * 2^a) : r ≤ rung (Ieee.double.nearest s m place) := by
  by_cases hm : m = 0
  · subst hm
    have : mg r = 0 := by
      rw [Nat.zero_mul] at h
      rcases Nat.mul_eq_zero.1 (Nat.le_zero.1 h) with h | h
      · exact h
      · have := Nat.two_pow_pos b; omega
    have : r = 0 := by
      rcases Nat.eq_zero_or_pos r with h0 | h0
      · exact h0
      · have := mg_lt h0; rw [mg_zero] at this; omega
    omega
  obtain ⟨L, k, e, hk, hL, hlo, hge, hle⟩ := nearest_form (s := s) hm hp
  rw [e, rung_word (Nat.lt_of_le_of_lt (Nat.min_le_right _ _) (by omega))]
  refine Nat.le_min.2 ⟨?_, hr⟩
  refine Decidable.byContradiction fun hn => ?_
  have h1 : L * 2^52 + (k + 1) ≤ r := by omega
  have h2 := mg_le h1
  have h3 : (k + 1) * 2^L ≤ mg (L * 2^52 + (k + 1)) := by
    by_cases hk2 : k = 2^53
    · subst hk2
      unfold mg
      rw [if_neg (by omega), show (L * 2^52 + (2^53 + 1)) / 2^52 - 1 = L + 1 by omega, show 2^52 + (L * 2^52 + (2^53 + 1)) % 2^52 = 2^52 + 1 by omega, Nat.pow_succ]
      calc (2^53 + 1) * 2^L ≤ ((2^52 + 1) * 2) * 2^L := Nat.mul_le_mul_right _ (by omega)
        _ = (2^52 + 1) * (2^L * 2) := by rw [Nat.mul_assoc, Nat.mul_comm 2]
    · rw [mg_at (by omega) (by omega)]; exact Nat.le_refl _
  have h4 : (k + 1) * 2^(b + L) ≤ m * 2^a := by
    refine Nat.le_trans ?_ h
    rw [Nat.add_comm b L, Nat.pow_add, ← Nat.mul_assoc]
    exact Nat.mul_le_mul_right _ (Nat.le_trans h3 h2)
  have := hge _ h4
  omega
theorem nearest_le {s : Bool} {m a b r : Nat} {place : Int} (hp : place = -1074 + (a : Int) - (b : Int)) (h : m * 2^a ≤ mg r * 2^b) : rung (Ieee.double.nearest s m place) ≤ r := by
  by_cases hm : m = 0
  · subst hm
    unfold Format.nearest; rw [if_pos rfl, rung_word (by omega)]; omega
  obtain ⟨L, k, e, hk, hL, hlo, hge, hle⟩ := nearest_form (s := s) hm hp
  rw [e, rung_word (Nat.lt_of_le_of_lt (Nat.min_le_right _ _) (by omega))]
  refine Nat.le_trans (Nat.min_le_left _ _) ?_
  refine Decidable.byContradiction fun hn => ?_
  have hpos : 0 < L * 2^52 + k := by omega
  have h1 : r ≤ L * 2^52 + k - 1 := by omega
  have h2 := mg_le h1
  by_cases hc : 0 < L ∧ k = 2^52
  · obtain ⟨h0, rfl⟩ := hc
    have h3 : mg (L * 2^52 + 2^52 - 1) < mg (L * 2^52 + 2^52) := mg_lt (by omega)
    rw [mg_at (by omega) (.inr (Nat.le_refl _))] at h3
    have h4 : mg r * 2^b < 2^52 * 2^(b + L) := by
      rw [Nat.add_comm b L, Nat.pow_add, ← Nat.mul_assoc]
      exact Nat.mul_lt_mul_of_pos_right (by omega) (Nat.two_pow_pos _)
    have := hlo h0
    omega
  · have hk1 : 0 < k := by omega
    have h3 : mg (L * 2^52 + k - 1) = (k - 1) * 2^L := by
      rw [show L * 2^52 + k - 1 = L * 2^52 + (k - 1) by omega]
      exact mg_at (by omega) (by omega)
    have h4 : m * 2^a ≤ (k - 1) * 2^(b + L) := by
      refine Nat.le_trans h ?_
      rw [Nat.add_comm b L, Nat.pow_add, ← Nat.mul_assoc]
      exact Nat.mul_le_mul_right _ (by omega)
    have := hle _ h4
    omega

/-! ### square roots -/
theorem mg_split (r : Nat) : ∃ c j, mg r = c * 2^j ∧ c < 2^53 := by
  unfold mg
  by_cases h : r < 2^52
  · exact ⟨r, 0, by rw [if_pos h]; simp, by omega⟩
  · exact ⟨_, _, by rw [if_neg h], by omega⟩
theorem dvd_of_big {c j A B : Nat} (hc : c < 2^53) (h : 2^53 * 2^A < c * 2^j * 2^B ∨ 2^53 * 2^A ≤ c * 2^j * 2^B) : A ≤ j + B := by
  refine Decidable.byContradiction fun hn => ?_
  have h1 : j + B ≤ A := by omega
  have h2 : c * 2^j * 2^B < 2^53 * 2^A := by
    rw [Nat.mul_assoc, ← Nat.pow_add]
    calc c * 2^(j + B) < 2^53 * 2^(j + B) := Nat.mul_lt_mul_of_pos_right hc (Nat.two_pow_pos _)
      _ ≤ 2^53 * 2^A := Nat.mul_le_mul_left _ (Nat.pow_le_pow_right (by omega) h1)
  omega
theorem rootFrom_spec (n : Nat) : ∀ (todo root : Nat), root * root ≤ n → n < (root + 2^todo) * (root + 2^todo) →
    Datum.rootFrom n todo root * Datum.rootFrom n todo root ≤ n ∧ n < (Datum.rootFrom n todo root + 1) * (Datum.rootFrom n todo root + 1)
  | 0, root, h1, h2 => ⟨h1, by simpa [Datum.rootFrom] using h2⟩
  | t + 1, root, h1, h2 => by
    unfold Datum.rootFrom
    rw [Nat.shiftLeft_eq, Nat.one_mul]
    dsimp only
    split
    · rename_i h
      exact rootFrom_spec n t _ h (by rw [Nat.add_assoc, show 2^t + 2^t = 2^(t+1) by rw [Nat.pow_succ]; omega]; exact h2)
    · rename_i h
      exact rootFrom_spec n t _ h1 (by omega)
def isqrt (n : Nat) : Nat := Datum.rootFrom n (n.log2 / 2 + 1) 0
theorem isqrt_spec (n : Nat) : isqrt n * isqrt n ≤ n ∧ n < (isqrt n + 1) * (isqrt n + 1) := by
  refine rootFrom_spec n _ 0 (by omega) ?_
  have h1 := @Nat.lt_log2_self n
  rw [Nat.zero_add, ← Nat.pow_add]
  exact Nat.lt_of_lt_of_le h1 (Nat.pow_le_pow_right (by omega) (by omega))
theorem le_isqrt {t n : Nat} (h : t * t ≤ n) : t ≤ isqrt n := by
  refine Decidable.byContradiction fun hn => ?_
  have h1 := (isqrt_spec n).2
  have h2 : (isqrt n + 1) * (isqrt n + 1) ≤ t * t := Nat.mul_le_mul (by omega) (by omega)
  omega
def fsqrt (x : Nat) : Nat := (Ieee.double.sqrt x).getD 0
/-- the square root of a number that is not below 0: between the same rungs as the exact one -/
theorem sqrt_spec {x : Nat} (hx : fin x) (h0 : 0 ≤ fv x) : ∃ z, Ieee.double.sqrt x = some z ∧ fsqrt x = z ∧ num z ∧ z < 2^64 ∧ (0 < fv x → neg z = false) ∧ (fv x = 0 → rung z = 0) ∧
    (∀ r, r ≤ 2047 * 2^52 → ((mg r * mg r : Nat) : Int) ≤ fv x * U → r ≤ rung z) ∧ (∀ r, fv x * U ≤ ((mg r * mg r : Nat) : Int) → rung z ≤ r) := by
  obtain ⟨m, k, h1, h2⟩ := fin_read hx
  have hk0 : (K0 : Int) = 1074 := rfl
  have efd : Ieee.double.fractionBits + 2 = 54 := rfl
  by_cases hm : m = 0
  · subst hm
    have e : Ieee.double.sqrt x = some (Ieee.double.word (neg x) 0) := by
      simp only [Format.sqrt, h1, Datum.root, if_true, Option.map_some, Format.write, Format.nearest]
    have hz : fv x = 0 := by rw [h2, signed_eq]; simp
    refine ⟨_, e, by unfold fsqrt; rw [e]; rfl, by unfold num; rw [rung_word (by omega)]; omega, word_lt (by omega), fun h => absurd h (by omega), fun _ => rung_word (by omega), ?_, ?_⟩
    · intro r _ hr
      rw [hz] at hr
      rw [rung_word (by omega)]
      have h3 : mg r * mg r = 0 := by omega
      have h4 : mg r = 0 := by rcases Nat.mul_eq_zero.1 h3 with h | h <;> exact h
      rcases Nat.eq_zero_or_pos r with h5 | h5
      · omega
      · have := mg_lt h5; rw [mg_zero] at this; omega
    · intro r _; rw [rung_word (by omega)]; omega
  · have hn : neg x = false := by
      cases hb : neg x with
      | false => rfl
      | true =>
        rw [h2, hb, signed_eq] at h0
        have : 0 < m * 2^k := Nat.mul_pos (by omega) (Nat.two_pow_pos _)
        simp only [if_true] at h0; omega
    have hm53 : m.log2 < 53 := by
      unfold fin at hx
      by_cases hs : rung x < 2^52
      · rw [read_sub hs] at h1; injection h1 with _ e _; rw [← e] at hm ⊢; exact (Nat.log2_lt hm).2 (by omega)
      · rw [read_norm (by omega) hx] at h1; injection h1 with _ e _; rw [← e] at hm ⊢; exact (Nat.log2_lt hm).2 (by omega)
    obtain ⟨mo, hmo⟩ : ∃ mo, mo = 2 * 54 - m.log2 + ((-1074 + (k : Int) - ((2 * 54 - m.log2 : Nat) : Int)) % 2).toNat := ⟨_, rfl⟩
    have hmo1 : 108 ≤ m.log2 + mo := by omega
    obtain ⟨H, hH⟩ : ∃ H : Nat, -1074 + (k : Int) - (mo : Int) = 2 * ((H : Int) - 1074) ∧ 1 ≤ H := ⟨((-1074 + (k : Int) - (mo : Int)) / 2 + 1074).toNat, by omega, by omega⟩
    have hplace : (-1074 + (k : Int) - (mo : Int)) / 2 - 1 = -1074 + ((H - 1 : Nat) : Int) - ((0 : Nat) : Int) := by omega
    generalize hN : m * 2^mo = n
    have hn0 : n ≠ 0 := by rw [← hN]; exact Nat.mul_ne_zero hm (by have := Nat.two_pow_pos mo; omega)
    have hnlog : 2^108 ≤ n := by
      rw [← hN]
      calc 2^108 ≤ 2^(m.log2 + mo) := Nat.pow_le_pow_right (by omega) hmo1
        _ = 2^m.log2 * 2^mo := by rw [Nat.pow_add]
        _ ≤ _ := Nat.mul_le_mul_right _ (Nat.log2_self_le hm)
    have hw := isqrt_spec n
    have hbig : 2^54 ≤ isqrt n := le_isqrt (by rw [← Nat.pow_add]; exact hnlog)
    have e : Ieee.double.sqrt x = some (Ieee.double.nearest false (2 * isqrt n + (isqrt n * isqrt n != n).toNat) ((-1074 + (k : Int) - (mo : Int)) / 2 - 1)) := by
      simp only [Format.sqrt, h1, Datum.root, efd]
      rw [if_neg hm, hn]
      simp only [Bool.false_eq_true, if_false, Option.map_some, Format.write, Nat.shiftLeft_eq]
      rw [← hmo, hN]
      rfl
    have hval : fv x * U = ((n * (2^H * 2^H) : Nat) : Int) := by
      rw [h2, hn, signed_eq]
      simp only [Bool.false_eq_true, if_false]
      rw [← Int.natCast_mul, U_eq, ← hN, Nat.mul_assoc m, ← Nat.pow_add, Nat.mul_assoc m, ← Nat.pow_add, ← Nat.pow_add, show k + K0 = mo + (H + H) by omega]
    generalize hw' : isqrt n = q at *
    have hS : 2^(H - 1) * 2 = 2^H := by rw [← Nat.pow_succ]; congr 1; omega
    refine ⟨_, e, by unfold fsqrt; rw [e]; rfl, (nearest_num _ _ _).1, (nearest_num _ _ _).2, ?_, ?_, ?_, ?_⟩
    · intro _
      unfold Format.nearest
      split
      · exact neg_word (by omega)
      · dsimp only; rw [infRung_eq]; exact neg_word (Nat.lt_of_le_of_lt (Nat.min_le_right _ _) (by omega))
    · intro hz
      rw [hz] at hval
      have : n * (2^H * 2^H) = 0 := by omega
      rcases Nat.mul_eq_zero.1 this with h | h
      · exact absurd h hn0
      · rcases Nat.mul_eq_zero.1 h with h | h <;> (have := Nat.two_pow_pos H; omega)
    · intro r hr hh
      rw [hval] at hh
      have hh' : mg r * mg r ≤ n * (2^H * 2^H) := by omega
      refine nearest_ge hplace hr ?_
      rw [Nat.pow_zero, Nat.mul_one]
      have key : mg r ≤ q * 2^H := by
        refine Decidable.byContradiction fun hcon => ?_
        obtain ⟨c, j, hcj, hc⟩ := mg_split r
        have hd : H ≤ j + 0 := dvd_of_big hc (.inl (by
          rw [Nat.pow_zero, Nat.mul_one, ← hcj]
          exact Nat.lt_of_le_of_lt (Nat.mul_le_mul_right _ (by omega : 2^53 ≤ q)) (by omega)))
        obtain ⟨t, ht⟩ : ∃ t, mg r = t * 2^H := ⟨c * 2^(j - H), by rw [hcj, Nat.mul_assoc, ← Nat.pow_add, show j - H + H = j by omega]⟩
        rw [ht] at hh' hcon
        have hlt : q < t := by
          refine Decidable.byContradiction fun hx => hcon (Nat.mul_le_mul_right _ (by omega))
        have h5 : t * t ≤ n := by
          have h6 : t * t * (2^H * 2^H) ≤ n * (2^H * 2^H) := by
            rw [show t * t * (2^H * 2^H) = t * 2^H * (t * 2^H) by simp only [Nat.mul_assoc, Nat.mul_left_comm]]; exact hh'
          exact Nat.le_of_mul_le_mul_right h6 (Nat.mul_pos (Nat.two_pow_pos _) (Nat.two_pow_pos _))
        have := le_isqrt h5
        omega
      refine Nat.le_trans key ?_
      rw [← hS, ← Nat.mul_assoc, Nat.mul_comm (q * 2^(H-1)) 2, ← Nat.mul_assoc]
      exact Nat.mul_le_mul_right _ (Nat.le_add_right _ _)
    · intro r hh
      rw [hval] at hh
      have hh' : n * (2^H * 2^H) ≤ mg r * mg r := by omega
      refine nearest_le hplace ?_
      rw [Nat.pow_zero, Nat.mul_one]
      have hqT : q * 2^H ≤ mg r := by
        refine Decidable.byContradiction fun hcon => ?_
        have h6 : mg r * mg r < (q * 2^H) * (q * 2^H) := Nat.mul_lt_mul'' (by omega) (by omega)
        have h7 : (q * 2^H) * (q * 2^H) ≤ n * (2^H * 2^H) := by
          rw [show q * 2^H * (q * 2^H) = q * q * (2^H * 2^H) by simp only [Nat.mul_assoc, Nat.mul_left_comm]]
          exact Nat.mul_le_mul_right _ hw.1
        omega
      have hb1 : ∀ b : Bool, b.toNat ≤ 1 := fun b => by cases b <;> simp
      by_cases hge : (q + 1) * 2^H ≤ mg r
      · refine Nat.le_trans ?_ hge
        rw [← hS, Nat.mul_comm (2^(H-1)) 2, ← Nat.mul_assoc]
        refine Nat.mul_le_mul_right _ ?_
        have := hb1 (q * q != n)
        omega
      · obtain ⟨c, j, hcj, hc⟩ := mg_split r
        have hd : H ≤ j + 0 := dvd_of_big hc (.inr (by
          rw [Nat.pow_zero, Nat.mul_one, ← hcj]
          exact Nat.le_trans (Nat.mul_le_mul_right _ (by omega : 2^53 ≤ q)) hqT))
        obtain ⟨t, ht⟩ : ∃ t, mg r = t * 2^H := ⟨c * 2^(j - H), by rw [hcj, Nat.mul_assoc, ← Nat.pow_add, show j - H + H = j by omega]⟩
        rw [ht] at hqT hge hh' ⊢
        have h8 : q ≤ t := Nat.le_of_mul_le_mul_right hqT (Nat.two_pow_pos _)
        have h9 : t < q + 1 := by
          refine Decidable.byContradiction fun hx => hge (Nat.mul_le_mul_right _ (by omega))
        obtain rfl : t = q := by omega
        have h10 : n ≤ t * t := by
          have h6 : n * (2^H * 2^H) ≤ t * t * (2^H * 2^H) := by
            rw [show t * t * (2^H * 2^H) = t * 2^H * (t * 2^H) by simp only [Nat.mul_assoc, Nat.mul_left_comm]]; exact hh'
          exact Nat.le_of_mul_le_mul_right h6 (Nat.mul_pos (Nat.two_pow_pos _) (Nat.two_pow_pos _))
        have h11 : t * t = n := by omega
        rw [h11]
        simp only [bne_self_eq_false, Bool.toNat_false, Nat.add_zero]
        rw [← hS, Nat.mul_comm (2^(H-1)) 2, ← Nat.mul_assoc, Nat.mul_comm 2 t]
        exact Nat.le_refl _

end Fl
end Go.Proofs.Ytllomldpbkeioaa
