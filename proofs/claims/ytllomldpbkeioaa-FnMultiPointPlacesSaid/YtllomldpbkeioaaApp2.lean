/- 'append' onto a slice of one's own: the row stays where it is, or lies in the newest block. -/
import Derived.Test.YtllomldpbkeioaaApp
namespace Go.Proofs.Ytllomldpbkeioaa
open Go.RowKit
section
variable {P : Program} {w : World} {t e : TypeId} {z : Value} {size bytes : Nat}
theorem run_app_new (S : SL P t e z size bytes) (ty : TypeId) (base : Nat) {A : Option Addr} {n c : Nat} {xs : List Value} (hown : w.ownsRow base e size (.slice A n c) n xs)
    {X : Option Addr} {m cx : Nat} {news : List Value} (hl : news.length = m * size) (hnews : Cell1 w X m news) (h1 : ∀ u ∈ news, u.oneCell' = true) (hX : X = none → m = 0)
    (h63 : n + m ≤ maxLen) (hbytes : (n + m) * bytes ≤ 140737488355328) (hbase : base ≤ w.heap.size) :
    ∃ A' c' w', (Builtin.append_ #[t, t] ty #[.slice A n c, .slice X m cx]).run P w = .ok (.slice A' (n + m) c') w' ∧ w'.ownsRow base e size (.slice A' (n + m) c') (n + m) (xs ++ news) ∧ w.grownBy w' (Value.ownBlock (.slice A n c)) ∧ (A' = A ∨ A' = some ⟨w.heap.size, 0, none⟩) := by
  obtain ⟨A', c', w', hr, h2, h3⟩ := run_app (cx := cx) S ty base hown hl hnews h1 hX h63 hbytes hbase
  refine ⟨A', c', w', hr, h2, h3, ?_⟩
  have hsmall : n + m ≤ 9223372036854775807 := by simp only [maxLen] at h63; omega
  obtain ⟨i, hi, hz, hs, hb⟩ := S.info
  subst hs hb
  by_cases hm : m = 0
  · subst hm
    have hle : n ≤ c := by
      rcases hown.2 with ⟨h, h0⟩ | ⟨g, cap, cur, h, _, _, h0, _⟩
      · omega
      · simp at h; omega
    have hs : (Builtin.append_ #[t, t] ty #[.slice A n c, .slice X 0 cx]).run P w = .ok (.slice A n c) w := by
      refine run_append_nothing (P := P) w t t ty e i S.ht hi A n c hle _ ?_
      cases X with
      | none => exact Src.ofNil (P := P) w S.ht cx
      | some ad => exact Src.ofSlice (P := P) w S.ht ad 0 cx [] (by simp) (fun j u h => by simp at h) (fun u h => by cases h)
    rw [hs] at hr
    simp at hr
    exact .inl hr.1.1.symm
  · rcases hnews with h | ⟨ad, rfl, hcell⟩
    · exact absurd h hm
    · rcases hown.2 with ⟨hv, hn0⟩ | ⟨g, cap, cur, hv, hbg, hg, hnc, hcm, hcs, htake⟩
      · simp at hv
        obtain ⟨rfl, rfl, rfl⟩ := hv
        have hr2 := run_append_nil (P := P) w t ty e i z S.ht hi hz ad m cx news hl hcell (by omega) (by omega) (by simp only [Nat.zero_add] at hbytes; omega)
        rw [hr2] at hr
        simp at hr
        exact .inr hr.1.1.symm
      · simp at hv
        obtain ⟨rfl, rfl⟩ := hv
        by_cases hroom : n + m ≤ c
        · have hfit : n * i.size + news.length ≤ cur.size := by rw [hl, hcs, ← Nat.add_mul]; exact Nat.mul_le_mul_right _ hroom
          have hr2 := run_append_room (P := P) w t ty e i S.ht hi g n c cur hg ad m cx news hl hcell h1 hroom hfit
          rw [hr2] at hr
          simp at hr
          exact .inl hr.1.1.symm
        · have holds : ∀ j u, xs[j]? = some u → w.cell? ((⟨g, 0, none⟩ : Addr).add j) = some u := hown.cells (g := g) rfl
          have hr2 := run_append_grow (P := P) w t ty e i z S.ht hi hz ⟨g, 0, none⟩ n c xs hown.1 holds ad m cx news hl hcell (by omega) (by omega) (growslice_fits (by omega) hbytes)
          rw [hr2] at hr
          simp at hr
          exact .inr hr.1.1.symm
theorem wp_app2 {o : Oper} {a : Act} {K : Act → World → Prop} {Q : Exit → Act → World → Prop} (S : SL P t e z size bytes) (s x : Operand)
    (ho : o.op = .call { callee := .builtin .append, args := #[s, x], argTypes := #[t, t] }) (base : Nat) {A : Option Addr} {n c : Nat} {xs : List Value} (hs : a.eval s = .slice A n c) (hown : w.ownsRow base e size (.slice A n c) n xs)
    {X : Option Addr} {m cx : Nat} (news : List Value) (hx : a.eval x = .slice X m cx) (hl : news.length = m * size) (hnews : Cell1 w X m news) (h1 : ∀ u ∈ news, u.oneCell' = true) (hX : X = none → m = 0)
    (h63 : n + m ≤ maxLen) (hbytes : (n + m) * bytes ≤ 140737488355328) (hbase : base ≤ w.heap.size)
    (h : ∀ A' c' w', w'.ownsRow base e size (.slice A' (n + m) c') (n + m) (xs ++ news) → w.grownBy w' (Value.ownBlock (.slice A n c)) → (A' = A ∨ A' = some ⟨w.heap.size, 0, none⟩) → K (a.put o.dst (.slice A' (n + m) c')) w') : o.wp P a w K Q := by
  obtain ⟨A', c', w', hr, h2, h3, h4⟩ := run_app_new S o.type base hown hl hnews h1 hX h63 hbytes hbase (cx := cx)
  unfold Oper.wp execOp
  simp only [ho, resolve, invoke, builtin, Sem.run_bind, Sem.run_pure, Result.andThen_ok, List.map_toArray, List.map_cons, List.map_nil, hs, hx, hr]
  exact h A' c' w' h2 h3 h4
theorem wpList_app2 {ops : Array Oper} {rest : List Oper} {o : Oper} {a : Act} {Q : Exit → Act → World → Prop} (S : SL P t e z size bytes) (hgd : o.guard = none) (s x : Operand)
    (ho : o.op = .call { callee := .builtin .append, args := #[s, x], argTypes := #[t, t] }) (base : Nat) {A : Option Addr} {n c : Nat} {xs : List Value} (hs : a.eval s = .slice A n c) (hown : w.ownsRow base e size (.slice A n c) n xs)
    {X : Option Addr} {m cx : Nat} (news : List Value) (hx : a.eval x = .slice X m cx) (hl : news.length = m * size) (hnews : Cell1 w X m news) (h1 : ∀ u ∈ news, u.oneCell' = true) (hX : X = none → m = 0)
    (h63 : n + m ≤ maxLen) (hbytes : (n + m) * bytes ≤ 140737488355328) (hbase : base ≤ w.heap.size)
    (h : ∀ A' c' w', w'.ownsRow base e size (.slice A' (n + m) c') (n + m) (xs ++ news) → w.grownBy w' (Value.ownBlock (.slice A n c)) → (A' = A ∨ A' = some ⟨w.heap.size, 0, none⟩) → wpList P ops Q rest (a.put o.dst (.slice A' (n + m) c')) w') : wpList P ops Q (o :: rest) a w :=
  wpList_plain hgd fun _ hK => wp_app2 S s x ho base hs hown news hx hl hnews h1 hX h63 hbytes hbase fun A' c' w' h2 h3 h4 => hK _ _ (h A' c' w' h2 h3 h4)
theorem step_app2 {o : Oper} {a : Act} {K : Act → World → Prop} {Q : Exit → Act → World → Prop} {ops : Array Oper} {E : Prop} (S : SL P t e z size bytes) (hgd : o.guard = none) (s x : Operand)
    (ho : o.op = .call { callee := .builtin .append, args := #[s, x], argTypes := #[t, t] }) (base : Nat) {A : Option Addr} {n c : Nat} {xs : List Value} (hs : a.eval s = .slice A n c) (hown : w.ownsRow base e size (.slice A n c) n xs)
    {X : Option Addr} {m cx : Nat} (news : List Value) (hx : a.eval x = .slice X m cx) (hl : news.length = m * size) (hnews : Cell1 w X m news) (h1 : ∀ u ∈ news, u.oneCell' = true) (hX : X = none → m = 0)
    (h63 : n + m ≤ maxLen) (hbytes : (n + m) * bytes ≤ 140737488355328) (hbase : base ≤ w.heap.size)
    (h : ∀ A' c' w', w'.ownsRow base e size (.slice A' (n + m) c') (n + m) (xs ++ news) → w.grownBy w' (Value.ownBlock (.slice A n c)) → (A' = A ∨ A' = some ⟨w.heap.size, 0, none⟩) → K (a.put o.dst (.slice A' (n + m) c')) w') :
    if Region.wanted o (yielded ops a.tmps) = true then Oper.wp P o a w K Q else E := by
  have hw : Region.wanted o (yielded ops a.tmps) = true := by simp [Region.wanted, hgd]
  rw [if_pos hw]
  exact wp_app2 S s x ho base hs hown news hx hl hnews h1 hX h63 hbytes hbase h
end
end Go.Proofs.Ytllomldpbkeioaa
