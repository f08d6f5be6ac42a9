/- 'append' onto a slice of one's own, whatever is appended. -/
import Derived.Test.YtllomldpbkeioaaBase
import Derived.Laws.OwnMore
import Derived.Deep.AppendLies
import Derived.Deep.Upon
namespace Go.Proofs.Ytllomldpbkeioaa
open Go.RowKit
/-- what the program says of a type of slices -/
structure SL (P : Program) (t e : TypeId) (z : Value) (size bytes : Nat) : Prop where
  ht : P.underlying t = some (.slice e)
  info : ∃ i, P.info? e = some i ∧ i.zero = some z ∧ i.size = size ∧ i.bytes = bytes
  zs : z.cells.size = size
  pos : 0 < size
def Cell1 (w : World) (X : Option Addr) (m : Nat) (news : List Value) : Prop := m = 0 ∨ ∃ ad, X = some ad ∧ ∀ j u, news[j]? = some u → w.cell? (ad.add j) = some u
section
variable {P : Program} {w : World} {t e : TypeId} {z : Value} {size bytes : Nat}
theorem run_app (S : SL P t e z size bytes) (ty : TypeId) (base : Nat) {A : Option Addr} {n c : Nat} {xs : List Value} (hown : w.ownsRow base e size (.slice A n c) n xs)
    {X : Option Addr} {m cx : Nat} {news : List Value} (hl : news.length = m * size) (hnews : Cell1 w X m news) (h1 : ∀ u ∈ news, u.oneCell' = true) (hX : X = none → m = 0)
    (h63 : n + m ≤ maxLen) (hbytes : (n + m) * bytes ≤ 140737488355328) (hbase : base ≤ w.heap.size) :
    ∃ A' c' w', (Builtin.append_ #[t, t] ty #[.slice A n c, .slice X m cx]).run P w = .ok (.slice A' (n + m) c') w' ∧ w'.ownsRow base e size (.slice A' (n + m) c') (n + m) (xs ++ news) ∧ w.grownBy w' (Value.ownBlock (.slice A n c)) := by
  obtain ⟨i, hi, hz, hs, hb⟩ := S.info
  by_cases hm : m = 0
  · subst hm
    have hn : news = [] := List.eq_nil_of_length_eq_zero (by simpa using hl)
    subst hn
    have hle : n ≤ c := by
      rcases hown.2 with ⟨h, h0⟩ | ⟨g, cap, cur, h, _, _, h0, _⟩
      · omega
      · simp at h; omega
    refine ⟨A, c, w, ?_, by simpa using hown, ⟨rfl, rfl, rfl, Nat.le_refl _, fun _ _ _ => rfl⟩⟩
    rw [Nat.add_zero]
    refine run_append_nothing (P := P) w t t ty e i S.ht hi A n c hle _ ?_
    cases X with
    | none => exact Src.ofNil (P := P) w S.ht cx
    | some ad => exact Src.ofSlice (P := P) w S.ht ad 0 cx [] (by simp) (fun j u h => by simp at h) (fun u h => by cases h)
  · rcases hnews with h | ⟨ad, rfl, hcell⟩
    · exact absurd h hm
    · obtain ⟨v', w', hr, h2, h3, _⟩ := run_append_own (P := P) w base t ty e i z size bytes S.ht hi hz hs hb S.zs S.pos _ n xs hown ad m cx news hl hcell h1 h63 hbytes hbase
      obtain ⟨g, cap, rfl, _, _⟩ := h2.form (by omega)
      exact ⟨_, _, w', hr, h2, h3⟩
theorem wp_app {o : Oper} {a : Act} {K : Act → World → Prop} {Q : Exit → Act → World → Prop} (S : SL P t e z size bytes) (s x : Operand)
    (ho : o.op = .call { callee := .builtin .append, args := #[s, x], argTypes := #[t, t] }) (base : Nat) {A : Option Addr} {n c : Nat} {xs : List Value} (hs : a.eval s = .slice A n c) (hown : w.ownsRow base e size (.slice A n c) n xs)
    {X : Option Addr} {m cx : Nat} (news : List Value) (hx : a.eval x = .slice X m cx) (hl : news.length = m * size) (hnews : Cell1 w X m news) (h1 : ∀ u ∈ news, u.oneCell' = true) (hX : X = none → m = 0)
    (h63 : n + m ≤ maxLen) (hbytes : (n + m) * bytes ≤ 140737488355328) (hbase : base ≤ w.heap.size)
    (h : ∀ A' c' w', w'.ownsRow base e size (.slice A' (n + m) c') (n + m) (xs ++ news) → w.grownBy w' (Value.ownBlock (.slice A n c)) → K (a.put o.dst (.slice A' (n + m) c')) w') : o.wp P a w K Q := by
  obtain ⟨A', c', w', hr, h2, h3⟩ := run_app S o.type base hown hl hnews h1 hX h63 hbytes hbase (cx := cx)
  unfold Oper.wp execOp
  simp only [ho, resolve, invoke, builtin, Sem.run_bind, Sem.run_pure, Result.andThen_ok, List.map_toArray, List.map_cons, List.map_nil, hs, hx, hr]
  exact h A' c' w' h2 h3
theorem wpList_app {ops : Array Oper} {rest : List Oper} {o : Oper} {a : Act} {Q : Exit → Act → World → Prop} (S : SL P t e z size bytes) (hgd : o.guard = none) (s x : Operand)
    (ho : o.op = .call { callee := .builtin .append, args := #[s, x], argTypes := #[t, t] }) (base : Nat) {A : Option Addr} {n c : Nat} {xs : List Value} (hs : a.eval s = .slice A n c) (hown : w.ownsRow base e size (.slice A n c) n xs)
    {X : Option Addr} {m cx : Nat} (news : List Value) (hx : a.eval x = .slice X m cx) (hl : news.length = m * size) (hnews : Cell1 w X m news) (h1 : ∀ u ∈ news, u.oneCell' = true) (hX : X = none → m = 0)
    (h63 : n + m ≤ maxLen) (hbytes : (n + m) * bytes ≤ 140737488355328) (hbase : base ≤ w.heap.size)
    (h : ∀ A' c' w', w'.ownsRow base e size (.slice A' (n + m) c') (n + m) (xs ++ news) → w.grownBy w' (Value.ownBlock (.slice A n c)) → wpList P ops Q rest (a.put o.dst (.slice A' (n + m) c')) w') : wpList P ops Q (o :: rest) a w :=
  wpList_plain hgd fun _ hK => wp_app S s x ho base hs hown news hx hl hnews h1 hX h63 hbytes hbase fun A' c' w' h2 h3 => hK _ _ (h A' c' w' h2 h3)
theorem step_app {o : Oper} {a : Act} {K : Act → World → Prop} {Q : Exit → Act → World → Prop} {ops : Array Oper} {E : Prop} (S : SL P t e z size bytes) (hgd : o.guard = none) (s x : Operand)
    (ho : o.op = .call { callee := .builtin .append, args := #[s, x], argTypes := #[t, t] }) (base : Nat) {A : Option Addr} {n c : Nat} {xs : List Value} (hs : a.eval s = .slice A n c) (hown : w.ownsRow base e size (.slice A n c) n xs)
    {X : Option Addr} {m cx : Nat} (news : List Value) (hx : a.eval x = .slice X m cx) (hl : news.length = m * size) (hnews : Cell1 w X m news) (h1 : ∀ u ∈ news, u.oneCell' = true) (hX : X = none → m = 0)
    (h63 : n + m ≤ maxLen) (hbytes : (n + m) * bytes ≤ 140737488355328) (hbase : base ≤ w.heap.size)
    (h : ∀ A' c' w', w'.ownsRow base e size (.slice A' (n + m) c') (n + m) (xs ++ news) → w.grownBy w' (Value.ownBlock (.slice A n c)) → K (a.put o.dst (.slice A' (n + m) c')) w') :
    if Region.wanted o (yielded ops a.tmps) = true then Oper.wp P o a w K Q else E := by
  have hw : Region.wanted o (yielded ops a.tmps) = true := by simp [Region.wanted, hgd]
  rw [if_pos hw]
  exact wp_app S s x ho base hs hown news hx hl hnews h1 hX h63 hbytes hbase h
end
/-! ### what is kept -/
section
variable {w0 w w' : World} {B : Nat} {e : TypeId} {size : Nat} {v : Value} {n : Nat} {xs : List Value} {row : Option Nat}
theorem b_grown (h : Below B w0 w) (hg : w.grownBy w' row) (hB : B ≤ w.heap.size) (hrow : ∀ k, row = some k → B ≤ k) : Below B w0 w' :=
  ⟨hg.os.trans h.os, hg.tape.trans h.tape, hg.output.trans h.output, Nat.le_trans h.size hg.size, fun k hk => (hg.block k (by omega) (fun e => by have := hrow k e.symm; omega)).trans (h.block k hk)⟩
theorem own_grown (h : Below B w0 w) (hown : w.ownsRow B e size v n xs) (hB : B ≤ w.heap.size) (hg : w.grownBy w' v.ownBlock) : Below B w0 w' :=
  b_grown h hg hB fun k hk => (hown.lt k hk).1
theorem own_far (hown : w.ownsRow B e size v n xs) {g : Nat} (hgB : g < B) : some g ≠ v.ownBlock := by
  intro e
  have := (hown.lt g e.symm).1
  omega
theorem Blk.grown {g : Nat} {t : TypeId} {cs : Array Value} (h : Blk w g t cs) (hg : w.grownBy w' row) (hne : some g ≠ row) : Blk w' g t cs := (hg.block g h.lt hne).trans h
/-- an own row through a call that leaves all blocks as they are -/
theorem own_below (hown : w.ownsRow B e size v n xs) (hb : Below w.heap.size w w') : w'.ownsRow B e size v n xs := by
  refine ⟨hown.1, ?_⟩
  rcases hown.2 with h | ⟨g, cap, cur, rfl, h1, h2, h3⟩
  · exact .inl h
  · have : g < w.heap.size := by
      rcases Nat.lt_or_ge g w.heap.size with h | h
      · exact h
      · rw [Array.getElem?_eq_none h] at h2; cases h2
    exact .inr ⟨g, cap, cur, rfl, h1, (hb.block g this).trans h2, h3⟩
/-- an own row behind a store elsewhere -/
theorem own_set (hown : w.ownsRow B e size v n xs) {p : Addr} (hp : some p.block ≠ v.ownBlock) (u : Value) : (w.setCell p u).ownsRow B e size v n xs := by
  refine ⟨hown.1, ?_⟩
  rcases hown.2 with h | ⟨g, cap, cur, rfl, h1, h2, h3⟩
  · exact .inl h
  · refine .inr ⟨g, cap, cur, rfl, h1, ?_, h3⟩
    rw [Below.heap_setCell w p u g (fun e => hp (by simp [Value.ownBlock, e]))]
    exact h2
theorem own_drew (hown : w.ownsRow B e size v n xs) : w.drew.ownsRow B e size v n xs := hown
theorem own_drewN (hown : w.ownsRow B e size v n xs) (m : Nat) : (w.drewN m).ownsRow B e size v n xs := hown
theorem own_shape (hown : w.ownsRow B e size v n xs) : ∃ A c, v = .slice A n c ∧ n ≤ c := by
  rcases hown.2 with ⟨rfl, rfl⟩ | ⟨g, cap, cur, rfl, _, _, h3, _⟩
  · exact ⟨none, 0, rfl, Nat.le_refl _⟩
  · exact ⟨_, _, rfl, h3⟩
/-- the cells of an own row, as they lie -/
theorem own_lies {A : Option Addr} {c : Nat} (hown : w.ownsRow B e size (.slice A n c) n xs) (hne : xs ≠ []) : ∃ b, A = some ⟨b, 0, none⟩ ∧ b < w.heap.size ∧ B ≤ b ∧ ∀ j (_ : j < xs.length), w.cell? ⟨b, j, none⟩ = some xs[j] := by
  rcases hown.2 with ⟨h1, h2⟩ | ⟨g, cap, cur, h1, h2, h3, h4⟩
  · subst h2
    have := hown.1
    simp at this
    exact absurd this hne
  · simp at h1
    obtain ⟨rfl, rfl⟩ := h1
    refine ⟨g, rfl, ?_, h2, fun j hj => ?_⟩
    · rcases Nat.lt_or_ge g w.heap.size with h | h
      · exact h
      · rw [Array.getElem?_eq_none h] at h3; cases h3
    · have := hown.cells (g := g) rfl j _ (List.getElem?_eq_getElem hj)
      have hadd : (⟨g, 0, none⟩ : Addr).add j = ⟨g, j, none⟩ := by unfold Addr.add; split <;> simp_all
      rwa [hadd] at this
end
theorem cell1_blk {w : World} {g : Nat} {t : TypeId} {cs : Array Value} (h : Blk w g t cs) (m : Nat) : Cell1 w (some ⟨g, 0, none⟩) m cs.toList := .inr ⟨_, rfl, World.news_of_block h⟩
end Go.Proofs.Ytllomldpbkeioaa
