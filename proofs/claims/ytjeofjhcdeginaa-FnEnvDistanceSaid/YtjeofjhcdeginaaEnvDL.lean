/- FnEnvDistance: the plain law. -/
import Derived.Test.YtjeofjhcdeginaaEnvD
import Derived.Test.YtjeofjhcdeginaaEnvPV
namespace Go.Proofs.Ytjeofjhcdeginaa
open Go.RowKit Go.Sort Fl FinW EnvW NumW EnvP
namespace EnvD
structure IE (e : EV) (a b c d : Int) : Prop where
  a : isI e.a a
  b : isI e.b b
  c : isI e.c c
  d : isI e.d d
theorem pick_minI {x y : Nat} {a b : Int} (hx : isI x a) (hy : isI y b) : isI (if flt y x = true then y else x) (min a b) := by
  rw [isI_flt hy hx]
  by_cases h : b < a
  · rw [if_pos (by simpa using h), show min a b = b by omega]; exact hy
  · rw [if_neg (by simpa using h), show min a b = a by omega]; exact hx
theorem pick_maxI {x y : Nat} {a b : Int} (hx : isI x a) (hy : isI y b) : isI (if flt x y = true then y else x) (max a b) := by
  rw [isI_flt hx hy]
  by_cases h : a < b
  · rw [if_pos (by simpa using h), show max a b = b by omega]; exact hy
  · rw [if_neg (by simpa using h), show max a b = a by omega]; exact hx
theorem gminI {x y : Nat} {a b : Int} (hx : isI x a) (hy : isI y b) : isI (gmin x y) (min a b) := by
  unfold gmin
  rw [feq_self (fin_num hx.1), isI_flt hx hy]
  by_cases h : a < b
  · rw [if_pos (by simpa using h), show min a b = a by omega]; exact hx
  · rw [if_neg (by simpa using h), show min a b = b by omega]; exact hy
theorem gmaxI {x y : Nat} {a b : Int} (hx : isI x a) (hy : isI y b) : isI (gmax x y) (max a b) := by
  unfold gmax
  rw [feq_self (fin_num hx.1), isI_flt hy hx]
  by_cases h : b < a
  · rw [if_pos (by simpa using h), show max a b = a by omega]; exact hx
  · rw [if_neg (by simpa using h), show max a b = b by omega]; exact hy
theorem bmaxI {x y : Nat} {a b : Int} (hx : isI x a) (hy : isI y b) : isI (bmax x y) (max a b) := by
  unfold bmax
  rw [isI_flt hx hy, isI_flt hy hx]
  by_cases h : a < b
  · rw [if_pos (by simpa using h), show max a b = b by omega]; exact hy
  · rw [if_neg (by simpa using h)]
    by_cases h2 : b < a
    · rw [if_pos (by simpa using h2), show max a b = a by omega]; exact hx
    · rw [if_neg (by simpa using h2)]
      obtain rfl : a = b := by omega
      rw [show max a a = a by omega]
      split <;> assumption
theorem isI0 : isI 0 0 := isI_lit (by decide +kernel) (by decide)
theorem mkI {e : EV} {a b c d : Int} (hf : e.f = true) (h : IE e a b c d) : IE (mk e) (min a c) (min b d) (max a c) (max b d) := by
  obtain ⟨h1, h2, h3, h4⟩ := h
  obtain ⟨f, xa, xb, xc, xd⟩ := e
  simp only at hf; subst hf
  exact ⟨pick_minI h1 h3, pick_minI h2 h4, pick_maxI h1 h3, pick_maxI h2 h4⟩
theorem toGI {e : EV} {a b c d : Int} (hf : e.f = true) (h : IE e a b c d) : (toG e).f = true ∧ IE (toG e) (min a c) (min b d) (max a c) (max b d) := by
  obtain ⟨h1, h2, h3, h4⟩ := h
  obtain ⟨f, xa, xb, xc, xd⟩ := e
  simp only at hf; subst hf
  exact ⟨rfl, gminI h1 h3, gminI h2 h4, gmaxI h1 h3, gmaxI h2 h4⟩
/-- eGap -/
def gapL (a b c d : Nat) : Nat := bmax (bmax 0 (fsub a d)) (fsub c b)
theorem gapLI {a b c d : Nat} {p q r s : Int} (ha : isI a p) (hb : isI b q) (hc : isI c r) (hd : isI d s) (b1 : p.natAbs ≤ 2^20) (b2 : q.natAbs ≤ 2^20) (b3 : r.natAbs ≤ 2^20) (b4 : s.natAbs ≤ 2^20) : isI (gapL a b c d) (max (max 0 (p - s)) (r - q)) :=
  bmaxI (bmaxI isI0 (isI_fsub ha hd (by omega))) (isI_fsub hc hb (by omega))
theorem gapGI {a b c d : Nat} {p q r s : Int} (ha : isI a p) (hb : isI b q) (hc : isI c r) (hd : isI d s) (b1 : p.natAbs ≤ 2^20) (b2 : q.natAbs ≤ 2^20) (b3 : r.natAbs ≤ 2^20) (b4 : s.natAbs ≤ 2^20) : isI (gapG a b c d) (max 0 (max (p - q) (r - s))) :=
  gmaxI isI0 (gmaxI (isI_fsub ha hb (by omega)) (isI_fsub hc hd (by omega)))
/-- what the walk needs of two full envelopes with whole ends -/
structure Facts (e o : EV) (z x y : Nat) : Prop where
  f1 : (toG e).f = true
  f2 : (toG o).f = true
  e1 : Fin4 (toG e)
  e2 : Fin4 (toG o)
  q1 : fin (gapG (toG o).a (toG e).c (toG e).a (toG o).c)
  q2 : fin (gapG (toG o).b (toG e).d (toG e).b (toG o).d)
  q3 : fin (fmul (gapG (toG o).a (toG e).c (toG e).a (toG o).c) (gapG (toG o).a (toG e).c (toG e).a (toG o).c))
  q4 : fin (fmul (gapG (toG o).b (toG e).d (toG e).b (toG o).d) (gapG (toG o).b (toG e).d (toG e).b (toG o).d))
  r : Ieee.double.sqrt (distS (toG e) (toG o)) = some z
  n1 : Fin4 (mk e)
  n2 : Fin4 (mk o)
  n3 : fin x
  n4 : fin y
  law : feq x 0 = true ∨ feq y 0 = true → feq z (fadd x y) = true
  law2 : feq x 0 = false → feq y 0 = false → flt 0 z = true ∧ fle (bmax x y) z = true
theorem absMin {a c : Int} {B : Nat} (h1 : a.natAbs ≤ B) (h2 : c.natAbs ≤ B) : (min a c).natAbs ≤ B := by omega
theorem absMax {a c : Int} {B : Nat} (h1 : a.natAbs ≤ B) (h2 : c.natAbs ≤ B) : (max a c).natAbs ≤ B := by omega
theorem facts {e o : EV} {a b c d a' b' c' d' : Int} (he : e.f = true) (ho : o.f = true) (hi : IE e a b c d) (hi' : IE o a' b' c' d')
    (b1 : a.natAbs ≤ 2^20) (b2 : b.natAbs ≤ 2^20) (b3 : c.natAbs ≤ 2^20) (b4 : d.natAbs ≤ 2^20) (b5 : a'.natAbs ≤ 2^20) (b6 : b'.natAbs ≤ 2^20) (b7 : c'.natAbs ≤ 2^20) (b8 : d'.natAbs ≤ 2^20) :
    ∃ z, Facts e o z (gapL (mk e).a (mk e).c (mk o).a (mk o).c) (gapL (mk e).b (mk e).d (mk o).b (mk o).d) := by
  obtain ⟨f1, G1⟩ := toGI he hi
  obtain ⟨f2, G2⟩ := toGI ho hi'
  have M1 := mkI he hi
  have M2 := mkI ho hi'
  have m1 := absMin b1 b3
  have m2 := absMin b2 b4
  have m3 := absMax b1 b3
  have m4 := absMax b2 b4
  have m5 := absMin b5 b7
  have m6 := absMin b6 b8
  have m7 := absMax b5 b7
  have m8 := absMax b6 b8
  clear hi hi' b1 b2 b3 b4 b5 b6 b7 b8
  generalize min a c = ac at *
  generalize max a c = Ac at *
  generalize min b d = bd at *
  generalize max b d = Bd at *
  generalize min a' c' = ac' at *
  generalize max a' c' = Ac' at *
  generalize min b' d' = bd' at *
  generalize max b' d' = Bd' at *
  have g1 := gapGI G2.a G1.c G1.a G2.c m5 m3 m1 m7
  have g2 := gapGI G2.b G1.d G1.b G2.d m6 m4 m2 m8
  have l1 := gapLI M1.a M1.c M2.a M2.c m1 m3 m5 m7
  have l2 := gapLI M1.b M1.d M2.b M2.d m2 m4 m6 m8
  obtain ⟨X, hX⟩ : ∃ X : Int, X = max 0 (max (ac' - Ac) (ac - Ac')) := ⟨_, rfl⟩
  obtain ⟨Y, hY⟩ : ∃ Y : Int, Y = max 0 (max (bd' - Bd) (bd - Bd')) := ⟨_, rfl⟩
  rw [← hX] at g1
  rw [← hY] at g2
  rw [show max (max 0 (ac - Ac')) (ac' - Ac) = X by omega] at l1
  rw [show max (max 0 (bd - Bd')) (bd' - Bd) = Y by omega] at l2
  have x0 : 0 ≤ X ∧ X ≤ 2^22 := by omega
  have y0 : 0 ≤ Y ∧ Y ≤ 2^22 := by omega
  clear hX hY m1 m2 m3 m4 m5 m6 m7 m8
  have sqX : X * X ≤ 2^44 := by
    have := Int.mul_le_mul x0.2 x0.2 x0.1 (by omega : (0:Int) ≤ 2^22)
    omega
  have sqY : Y * Y ≤ 2^44 := by
    have := Int.mul_le_mul y0.2 y0.2 y0.1 (by omega : (0:Int) ≤ 2^22)
    omega
  have sX0 : 0 ≤ X * X := Int.mul_nonneg x0.1 x0.1
  have sY0 : 0 ≤ Y * Y := Int.mul_nonneg y0.1 y0.1
  have p1 := isI_fmul g1 g1 (by omega)
  have p2 := isI_fmul g2 g2 (by omega)
  have s := isI_fadd p1 p2 (by omega)
  obtain ⟨z, hz1, hz2, hz3, hz4, hz5, hz6⟩ := root_law l1 l2 x0.1 y0.1 x0.2 y0.2 s
  refine ⟨z, f1, f2, ⟨G1.a.1, G1.b.1, G1.c.1, G1.d.1⟩, ⟨G2.a.1, G2.b.1, G2.c.1, G2.d.1⟩, g1.1, g2.1, p1.1, p2.1, hz1, ⟨M1.a.1, M1.b.1, M1.c.1, M1.d.1⟩, ⟨M2.a.1, M2.b.1, M2.c.1, M2.d.1⟩, l1.1, l2.1, ?_, ?_⟩
  · rw [isI_feq l1 isI0, isI_feq l2 isI0]
    intro h; exact hz5 (by simpa using h)
  · rw [isI_feq l1 isI0, isI_feq l2 isI0]
    intro h1 h2
    simp at h1 h2
    exact hz6 (by omega) (by omega)
theorem whole4_I {a b c d : Nat} (h : whole4 a b c d = true) : ∃ p q r s : Int, isI a p ∧ isI b q ∧ isI c r ∧ isI d s ∧ p.natAbs ≤ 2^20 ∧ q.natAbs ≤ 2^20 ∧ r.natAbs ≤ 2^20 ∧ s.natAbs ≤ 2^20 := by
  unfold whole4 at h
  simp only [Bool.and_eq_true, whole20_iff] at h
  obtain ⟨⟨⟨⟨p, hp, p1, p2⟩, q, hq, q1, q2⟩, r, hr, r1, r2⟩, s, hs, s1, s2⟩ := h
  exact ⟨p, q, r, s, hp, hq, hr, hs, by omega, by omega, by omega, by omega⟩
theorem rnd_facts {e o : EV} (h : eRoundF [e, o] = true) (he : e.f = true) (ho : o.f = true) : ∃ z, Facts e o z (gapL (mk e).a (mk e).c (mk o).a (mk o).c) (gapL (mk e).b (mk e).d (mk o).b (mk o).d) := by
  unfold eRoundF at h
  simp only [List.all_cons, List.all_nil, Bool.and_true, Bool.and_eq_true] at h
  unfold eRnd at h
  rw [he, ho] at h
  simp only [Bool.true_and, Bool.not_not] at h
  obtain ⟨p, q, r, s, h1, h2, h3, h4, b1, b2, b3, b4⟩ := whole4_I h.1
  obtain ⟨p', q', r', s', h1', h2', h3', h4', b1', b2', b3', b4'⟩ := whole4_I h.2
  exact facts he ho ⟨h1, h2, h3, h4⟩ ⟨h1', h2', h3', h4'⟩ b1 b2 b3 b4 b1' b2' b3' b4'
end EnvD
end Go.Proofs.Ytjeofjhcdeginaa
