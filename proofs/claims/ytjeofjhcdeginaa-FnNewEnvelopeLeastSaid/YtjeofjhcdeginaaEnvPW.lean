/- FnEnvIntersectsPlace: the plain law and the walk. -/
import Derived.Test.YtjeofjhcdeginaaEnvW4
namespace Go.Proofs.Ytjeofjhcdeginaa
open Go.RowKit Go.Sort Fl FinW EnvW
namespace EnvP
def mk (e : EV) : EV := eOfF (eCornersF e)
def EV.fin (e : EV) : Prop := Fl.fin e.a ∧ Fl.fin e.b ∧ Fl.fin e.c ∧ Fl.fin e.d
structure Ends (e E : EV) : Prop where
  f : E.f = true
  a : num E.a ∧ key E.a = min (key e.a) (key e.c)
  b : num E.b ∧ key E.b = min (key e.b) (key e.d)
  c : num E.c ∧ key E.c = max (key e.a) (key e.c)
  d : num E.d ∧ key E.d = max (key e.b) (key e.d)
theorem pick_min {x y : Nat} (hx : num x) (hy : num y) : num (if flt y x = true then y else x) ∧ key (if flt y x = true then y else x) = min (key x) (key y) := by
  rw [flt_num hy hx]
  by_cases h : key y < key x
  · rw [if_pos (by simpa using h)]; exact ⟨hy, by omega⟩
  · rw [if_neg (by simpa using h)]; exact ⟨hx, by omega⟩
theorem pick_max {x y : Nat} (hx : num x) (hy : num y) : num (if flt x y = true then y else x) ∧ key (if flt x y = true then y else x) = max (key x) (key y) := by
  rw [flt_num hx hy]
  by_cases h : key x < key y
  · rw [if_pos (by simpa using h)]; exact ⟨hy, by omega⟩
  · rw [if_neg (by simpa using h)]; exact ⟨hx, by omega⟩
theorem gmin_num {x y : Nat} (hx : num x) (hy : num y) : num (gmin x y) ∧ key (gmin x y) = min (key x) (key y) := by
  unfold gmin
  rw [feq_self hx, flt_num hx hy]
  by_cases h : key x < key y
  · rw [if_pos (by simpa using h)]; exact ⟨hx, by omega⟩
  · rw [if_neg (by simpa using h)]; exact ⟨hy, by omega⟩
theorem gmax_num {x y : Nat} (hx : num x) (hy : num y) : num (gmax x y) ∧ key (gmax x y) = max (key x) (key y) := by
  unfold gmax
  rw [feq_self hx, flt_num hy hx]
  by_cases h : key y < key x
  · rw [if_pos (by simpa using h)]; exact ⟨hx, by omega⟩
  · rw [if_neg (by simpa using h)]; exact ⟨hy, by omega⟩
theorem mk_ends {e : EV} (hf : e.f = true) (h : EV.fin e) : Ends e (mk e) := by
  obtain ⟨h1, h2, h3, h4⟩ := h
  obtain ⟨f, a, b, c, d⟩ := e
  simp only at hf; subst hf
  exact ⟨rfl, pick_min (fin_num h1) (fin_num h3), pick_min (fin_num h2) (fin_num h4), pick_max (fin_num h1) (fin_num h3), pick_max (fin_num h2) (fin_num h4)⟩
theorem toG_ends {e : EV} (hf : e.f = true) (h : EV.fin e) : Ends e (toG e) := by
  obtain ⟨h1, h2, h3, h4⟩ := h
  obtain ⟨f, a, b, c, d⟩ := e
  simp only at hf; subst hf
  exact ⟨rfl, gmin_num (fin_num h1) (fin_num h3), gmin_num (fin_num h2) (fin_num h4), gmax_num (fin_num h1) (fin_num h3), gmax_num (fin_num h2) (fin_num h4)⟩
theorem mk_none {e : EV} (hf : e.f = false) : mk e = ⟨false, 0, 0, 0, 0⟩ ∧ toG e = ⟨false, 0, 0, 0, 0⟩ := by
  obtain ⟨f, a, b, c, d⟩ := e
  simp only at hf; subst hf
  exact ⟨rfl, rfl⟩
theorem num0 : num 0 := by unfold num; decide
theorem meet_key {e o : EV} (he : e.f = true → EV.fin e) (ho : o.f = true → EV.fin o) : gMeetF (toG e) (toG o) = true ↔ e.f = true ∧ o.f = true ∧ min (key e.a) (key e.c) ≤ max (key o.a) (key o.c) ∧ min (key o.a) (key o.c) ≤ max (key e.a) (key e.c) ∧
    min (key e.b) (key e.d) ≤ max (key o.b) (key o.d) ∧ min (key o.b) (key o.d) ≤ max (key e.b) (key e.d) := by
  cases hf : e.f with
  | false => rw [(mk_none hf).2]; simp [gMeetF]
  | true =>
    cases hg : o.f with
    | false => rw [(mk_none hg).2]; simp [gMeetF]
    | true =>
      have E := toG_ends hf (he hf)
      have O := toG_ends hg (ho hg)
      unfold gMeetF
      simp only [Bool.and_eq_true, E.f, O.f, fle_iff, E.a, E.b, E.c, E.d, O.a, O.b, O.c, O.d, true_and]
      simp only [and_assoc]
theorem has_key {e : EV} (he : e.f = true → EV.fin e) (x y : Nat) : eHasF (mk e) x y = true ↔ e.f = true ∧ num x ∧ num y ∧ min (key e.a) (key e.c) ≤ key x ∧ key x ≤ max (key e.a) (key e.c) ∧ min (key e.b) (key e.d) ≤ key y ∧ key y ≤ max (key e.b) (key e.d) := by
  cases hf : e.f with
  | false => rw [(mk_none hf).1]; simp [eHasF]
  | true =>
    have E := mk_ends hf (he hf)
    unfold eHasF
    simp only [Bool.and_eq_true, E.f, fle_iff, E.a, E.b, E.c, E.d, true_and]
    constructor
    · rintro ⟨⟨⟨h1, h2⟩, h3⟩, h4⟩; exact ⟨h1.1, h3.1, h1.2, h2.2, h3.2, h4.2⟩
    · rintro ⟨h1, h2, h3, h4, h5, h6⟩; exact ⟨⟨⟨⟨h1, h3⟩, h1, h4⟩, h2, h5⟩, h2, h6⟩
theorem mk_num {e : EV} (he : e.f = true → EV.fin e) : num (mk e).a ∧ num (mk e).b := by
  cases hf : e.f with
  | false => rw [(mk_none hf).1]; exact ⟨num0, num0⟩
  | true => exact ⟨(mk_ends hf (he hf)).a.1, (mk_ends hf (he hf)).b.1⟩
theorem law1 {e o : EV} (he : e.f = true → EV.fin e) (ho : o.f = true → EV.fin o) (x y : Nat) (h1 : eHasF (mk e) x y = true) (h2 : eHasF (mk o) x y = true) : gMeetF (toG e) (toG o) = true := by
  rw [has_key he] at h1; rw [has_key ho] at h2
  rw [meet_key he ho]
  obtain ⟨h1, _, _, h3⟩ := h1
  obtain ⟨h2, _, _, h4⟩ := h2
  exact ⟨h1, h2, by omega, by omega, by omega, by omega⟩
theorem law2 {e o : EV} (he : e.f = true → EV.fin e) (ho : o.f = true → EV.fin o) : gMeetF (toG e) (toG o) = (eHasF (mk e) (bmax (mk e).a (mk o).a) (bmax (mk e).b (mk o).b) && eHasF (mk o) (bmax (mk e).a (mk o).a) (bmax (mk e).b (mk o).b)) := by
  obtain ⟨e1, e2⟩ := mk_num he
  obtain ⟨o1, o2⟩ := mk_num ho
  rw [Bool.eq_iff_iff, Bool.and_eq_true, has_key he, has_key ho, meet_key he ho, key_bmax e1 o1, key_bmax e2 o2]
  have n1 := num_bmax e1 o1
  have n2 := num_bmax e2 o2
  cases hf : e.f with
  | false => simp
  | true =>
    cases hg : o.f with
    | false => simp
    | true =>
      rw [(mk_ends hf (he hf)).a.2, (mk_ends hf (he hf)).b.2, (mk_ends hg (ho hg)).a.2, (mk_ends hg (ho hg)).b.2]
      simp only [true_and, n1, n2]
      omega
theorem fits_fin {e o : EV} (h : eFitsF [e, o] = true) : (e.f = true → EV.fin e) ∧ (o.f = true → EV.fin o) := by
  have one : ∀ e : EV, eFit e = true → e.f = true → EV.fin e := by
    intro e h hf
    unfold eFit at h
    rw [hf, Bool.true_and, Bool.not_not] at h
    unfold fin4 at h
    simp only [Bool.and_eq_true, finB_iff] at h
    exact ⟨h.1.1.1, h.1.1.2, h.1.2, h.2⟩
  unfold eFitsF at h
  simp only [List.all_cons, List.all_nil, Bool.and_true, Bool.and_eq_true] at h
  exact ⟨one e h.1, one o h.2⟩
theorem two_evs (w : World) (t : TypeId) (n B : Nat) (hn : n = w.heap.size) (hB : n < B) (e o : EV) : EVs (w.alloc (.cells #[.bool e.f, .float .f64 e.a, .float .f64 e.b, .float .f64 e.c, .float .f64 e.d, .bool o.f, .float .f64 o.a, .float .f64 o.b, .float .f64 o.c, .float .f64 o.d] t)) B (some ⟨n, 0, none⟩) [e, o] := by
  subst hn
  intro _
  refine ⟨_, _, rfl, hB, fun i hi => ?_⟩
  have hi' : i < 2 := hi
  match i, hi' with
  | 0, _ => exact ⟨by simp [go_sem], by simp [go_sem], by simp [go_sem], by simp [go_sem], by simp [go_sem]⟩
  | 1, _ => exact ⟨by simp [go_sem], by simp [go_sem], by simp [go_sem], by simp [go_sem], by simp [go_sem]⟩
end EnvP
end Go.Proofs.Ytjeofjhcdeginaa
