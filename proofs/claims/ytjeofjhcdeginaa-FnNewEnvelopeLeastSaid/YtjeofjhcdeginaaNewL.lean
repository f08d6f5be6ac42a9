/- FnNewEnvelopeLeast: the plain law. -/
import Derived.Test.YtjeofjhcdeginaaNewW4
import Derived.Test.YtjeofjhcdeginaaEnvPW
namespace Go.Proofs.Ytjeofjhcdeginaa
open Go.RowKit Go.Sort Fl FinW EnvW EnvP
namespace NewE
structure Inv (E : EV) (ps : List (Nat × Nat)) : Prop where
  f : E.f = true
  fin : EV.fin E
  a : ∀ K : Int, K ≤ key E.a ↔ ∀ p ∈ ps, K ≤ key p.1
  b : ∀ K : Int, K ≤ key E.b ↔ ∀ p ∈ ps, K ≤ key p.2
  c : ∀ K : Int, key E.c ≤ K ↔ ∀ p ∈ ps, key p.1 ≤ K
  d : ∀ K : Int, key E.d ≤ K ↔ ∀ p ∈ ps, key p.2 ≤ K
theorem fin_gmin {x y : Nat} (hx : fin x) (hy : fin y) : fin (gmin x y) := by unfold gmin; split <;> assumption
theorem fin_gmax {x y : Nat} (hx : fin x) (hy : fin y) : fin (gmax x y) := by unfold gmax; split <;> assumption
theorem inv_of (ps : List (Nat × Nat)) (p0 : Nat × Nat) (hp : ∀ p ∈ p0 :: ps, fin p.1 ∧ fin p.2) : Inv (geOfF (p0 :: ps)) (p0 :: ps) := by
  have base : ∀ (ps done : List (Nat × Nat)) (E : EV), Inv E done → (∀ p ∈ ps, fin p.1 ∧ fin p.2) → Inv (ps.foldl geStep E) (done ++ ps) := by
    intro ps
    induction ps with
    | nil => intro done E h _; simpa using h
    | cons q ps ih =>
      intro done E h hf
      have e1 : geStep E q = ⟨true, gmin E.a q.1, gmin E.b q.2, gmax E.c q.1, gmax E.d q.2⟩ := by unfold geStep; rw [h.f]; rfl
      obtain ⟨q1, q2⟩ := hf q (List.mem_cons_self ..)
      obtain ⟨f1, f2, f3, f4⟩ := h.fin
      have := ih (done ++ [q]) (geStep E q) ?_ (fun p hp => hf p (List.mem_cons_of_mem _ hp))
      · simpa using this
      · rw [e1]
        refine ⟨rfl, ⟨fin_gmin f1 q1, fin_gmin f2 q2, fin_gmax f3 q1, fin_gmax f4 q2⟩, ?_, ?_, ?_, ?_⟩
        · intro K
          show K ≤ key (gmin E.a q.1) ↔ _
          rw [(gmin_num (fin_num f1) (fin_num q1)).2, Int.le_min, h.a K]
          simp only [List.mem_append, List.mem_singleton]
          exact ⟨fun ⟨x, y⟩ p hp => hp.elim (x p) (fun e => e ▸ y), fun x => ⟨fun p hp => x p (.inl hp), x q (.inr rfl)⟩⟩
        · intro K
          show K ≤ key (gmin E.b q.2) ↔ _
          rw [(gmin_num (fin_num f2) (fin_num q2)).2, Int.le_min, h.b K]
          simp only [List.mem_append, List.mem_singleton]
          exact ⟨fun ⟨x, y⟩ p hp => hp.elim (x p) (fun e => e ▸ y), fun x => ⟨fun p hp => x p (.inl hp), x q (.inr rfl)⟩⟩
        · intro K
          show key (gmax E.c q.1) ≤ K ↔ _
          rw [(gmax_num (fin_num f3) (fin_num q1)).2, Int.max_le, h.c K]
          simp only [List.mem_append, List.mem_singleton]
          exact ⟨fun ⟨x, y⟩ p hp => hp.elim (x p) (fun e => e ▸ y), fun x => ⟨fun p hp => x p (.inl hp), x q (.inr rfl)⟩⟩
        · intro K
          show key (gmax E.d q.2) ≤ K ↔ _
          rw [(gmax_num (fin_num f4) (fin_num q2)).2, Int.max_le, h.d K]
          simp only [List.mem_append, List.mem_singleton]
          exact ⟨fun ⟨x, y⟩ p hp => hp.elim (x p) (fun e => e ▸ y), fun x => ⟨fun p hp => x p (.inl hp), x q (.inr rfl)⟩⟩
  obtain ⟨h1, h2⟩ := hp p0 (List.mem_cons_self ..)
  refine base ps [p0] ⟨true, p0.1, p0.2, p0.1, p0.2⟩ ⟨rfl, ⟨h1, h2, h1, h2⟩, ?_, ?_, ?_, ?_⟩ (fun p hh => hp p (List.mem_cons_of_mem _ hh))
  all_goals
    intro K
    simp
theorem list_fin {ps : List (Nat × Nat)} (h : eListF ps = true) : ∀ p ∈ ps, fin p.1 ∧ fin p.2 := by
  intro p hp
  unfold eListF at h
  rw [List.all_eq_true] at h
  have := h p hp
  simpa [finB_iff] using this
theorem inv_ge {ps : List (Nat × Nat)} (hne : ps ≠ []) (h : eListF ps = true) : Inv (geOfF ps) ps := by
  cases ps with
  | nil => exact absurd rfl hne
  | cons p ps => exact inv_of ps p (list_fin h)
theorem law_has {ps : List (Nat × Nat)} (hne : ps ≠ []) (h : eListF ps = true) : ∀ p ∈ ps, eHasF (toG (geOfF ps)) p.1 p.2 = true := by
  intro p hp
  have I := inv_ge hne h
  obtain ⟨p1, p2⟩ := list_fin h p hp
  have E := toG_ends I.f I.fin
  have a1 := (I.a (key (geOfF ps).a)).1 (Int.le_refl _) p hp
  have b1 := (I.b (key (geOfF ps).b)).1 (Int.le_refl _) p hp
  have c1 := (I.c (key (geOfF ps).c)).1 (Int.le_refl _) p hp
  have d1 := (I.d (key (geOfF ps).d)).1 (Int.le_refl _) p hp
  have n1 := fin_num p1
  have n2 := fin_num p2
  unfold eHasF
  simp only [Bool.and_eq_true, fle_iff, E.f, E.a, E.b, E.c, E.d, n1, n2, true_and]
  omega
theorem law_cover {ps : List (Nat × Nat)} (hne : ps ≠ []) (h : eListF ps = true) {o : EV} (ho : o.f = true → EV.fin o) : gCoverF (toG o) (toG (geOfF ps)) = ps.all fun p => eHasF (toG o) p.1 p.2 := by
  have I := inv_ge hne h
  obtain ⟨q, hq⟩ := List.exists_mem_of_ne_nil ps hne
  have E := toG_ends I.f I.fin
  have a1 := (I.a (key (geOfF ps).a)).1 (Int.le_refl _) q hq
  have b1 := (I.b (key (geOfF ps).b)).1 (Int.le_refl _) q hq
  have c1 := (I.c (key (geOfF ps).c)).1 (Int.le_refl _) q hq
  have d1 := (I.d (key (geOfF ps).d)).1 (Int.le_refl _) q hq
  have ea := E.a.2
  have eb := E.b.2
  have ec := E.c.2
  have ed := E.d.2
  rw [show min (key (geOfF ps).a) (key (geOfF ps).c) = key (geOfF ps).a by omega] at ea
  rw [show min (key (geOfF ps).b) (key (geOfF ps).d) = key (geOfF ps).b by omega] at eb
  rw [show max (key (geOfF ps).a) (key (geOfF ps).c) = key (geOfF ps).c by omega] at ec
  rw [show max (key (geOfF ps).b) (key (geOfF ps).d) = key (geOfF ps).d by omega] at ed
  rw [Bool.eq_iff_iff, List.all_eq_true]
  cases hf : o.f with
  | false =>
    rw [(mk_none hf).2]
    constructor
    · intro h; simp [gCoverF] at h
    · intro h; have := h q hq; simp [eHasF] at this
  | true =>
    have O := toG_ends hf (ho hf)
    unfold gCoverF eHasF
    simp only [Bool.and_eq_true, fle_iff, E.f, O.f, O.a.1, O.b.1, O.c.1, O.d.1, E.a.1, E.b.1, E.c.1, E.d.1, ea, eb, ec, ed, true_and, I.a, I.b, I.c, I.d]
    constructor
    · rintro ⟨⟨⟨h1, h2⟩, h3⟩, h4⟩ p hp
      obtain ⟨p1, p2⟩ := list_fin h p hp
      exact ⟨⟨⟨⟨fin_num p1, h1 p hp⟩, fin_num p1, h3 p hp⟩, fin_num p2, h2 p hp⟩, fin_num p2, h4 p hp⟩
    · intro hh
      exact ⟨⟨⟨fun p hp => (hh p hp).1.1.1.2, fun p hp => (hh p hp).1.2.2⟩, fun p hp => (hh p hp).1.1.2.2⟩, fun p hp => (hh p hp).2.2⟩
theorem fits_one {o : EV} (h : eFitsF [o] = true) : o.f = true → EV.fin o := by
  intro hf
  unfold eFitsF at h
  simp only [List.all_cons, List.all_nil, Bool.and_true] at h
  unfold eFit at h
  rw [hf, Bool.true_and, Bool.not_not] at h
  unfold fin4 at h
  simp only [Bool.and_eq_true, finB_iff] at h
  exact ⟨h.1.1.1, h.1.1.2, h.1.2, h.2⟩
end NewE
end Go.Proofs.Ytjeofjhcdeginaa
