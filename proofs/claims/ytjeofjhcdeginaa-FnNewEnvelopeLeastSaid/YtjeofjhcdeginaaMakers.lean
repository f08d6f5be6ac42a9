/- A region that draws its order and makes variables: among its first n operations some only lay a new block (their order is free), the others read alone or call what makes memory alone; the rest comes behind all of them, one by one. One walk in the order of the text; the new blocks' numbers are left open. -/
import Derived.Test.YtjeofjhcdeginaaTail
namespace Go.Proofs.Ytjeofjhcdeginaa
open Go Go.RowKit Go.Sort
section
variable {P : Program} {ops : Array Oper} {md : Region.Mode} {w0 : World}
/-- a call leaves what is as its own first world, but for new blocks -/
def Oper.calm (P : Program) (o : Oper) (a : Act) (w0 : World) (v : Value) : Prop := ∀ w, Below w0.heap.size w0 w → o.quietAt P a (fun w'' => Below w.heap.size w w'') w v
def cOp (P : Program) (ops : Array Oper) (w0 : World) (i : Nat) (K : Act → Prop) (a : Act) : Prop :=
  match ops[i]? with
  | none => K a
  | some o => if Region.wanted o (yielded ops a.tmps) then ∃ v, Oper.calm P o a w0 v ∧ K (a.put o.dst v) else K (a.put o.dst undef)
theorem cOp_mono {i : Nat} {a : Act} {K K' : Act → Prop} (h : ∀ a, K a → K' a) (hh : cOp P ops w0 i K a) : cOp P ops w0 i K' a := by
  unfold cOp at *
  split
  · exact h _ (by simpa [*] using hh)
  · rename_i o ho
    simp only [ho] at hh
    split
    · rename_i hw; simp only [hw, if_true] at hh; obtain ⟨v, h1, h2⟩ := hh; exact ⟨v, h1, h _ h2⟩
    · rename_i hw; simp only [hw] at hh; exact h _ hh
def YieldsC (P : Program) (ops : Array Oper) (w0 : World) (o : Oper) (v : Value) (a : Act) : Prop :=
  (Region.wanted o (yielded ops a.tmps) = true ∧ Oper.calm P o a w0 v) ∨ (Region.wanted o (yielded ops a.tmps) = false ∧ v = undef)
theorem YieldsC.cOp {i : Nat} {o : Oper} {v : Value} {a : Act} (hi : ops[i]? = some o) (hy : YieldsC P ops w0 o v a) {K : Act → Prop} (h : K (a.put o.dst v)) : cOp P ops w0 i K a := by
  unfold Go.Proofs.Ytjeofjhcdeginaa.cOp
  simp only [hi]
  rcases hy with ⟨hw, hv⟩ | ⟨hw, rfl⟩
  · simp only [hw, if_true]; exact ⟨v, hv, h⟩
  · simp only [hw, Bool.false_eq_true, if_false]; exact h
theorem YieldsC.of_same {o : Oper} {v : Value} {a a' : Act} (hy : YieldsC P ops w0 o v a) (he : execOp a'.eval o = execOp a.eval o)
    (hw : Region.wanted o (yielded ops a'.tmps) = Region.wanted o (yielded ops a.tmps)) : YieldsC P ops w0 o v a' := by
  unfold YieldsC Oper.calm Oper.quietAt at *
  rw [he, hw]
  exact hy
theorem yieldsC_of_cOp {i : Nat} {o : Oper} {a : Act} {K : Act → Prop} (hi : ops[i]? = some o) (h : cOp P ops w0 i K a) : ∃ v, YieldsC P ops w0 o v a ∧ K (a.put o.dst v) := by
  unfold cOp at h
  simp only [hi] at h
  by_cases hw : Region.wanted o (yielded ops a.tmps) = true
  · simp only [hw, if_true] at h
    obtain ⟨v, h1, h2⟩ := h
    exact ⟨v, .inl ⟨hw, h1⟩, h2⟩
  · simp only [hw] at h
    exact ⟨undef, .inr ⟨by simpa using hw, rfl⟩, h⟩
theorem cOp_put {j : Nat} {oi oj : Oper} {v : Value} (hj : ops[j]? = some oj) (hap : oi.apart ops oj = true)
    (hsi : ∀ cs b, oi.op ≠ .select cs b) (hsj : ∀ cs b, oj.op ≠ .select cs b) {K : Act → Prop} {a : Act}
    (hy : YieldsC P ops w0 oi v a) (h : cOp P ops w0 j K (a.put oi.dst v)) :
    cOp P ops w0 j (fun a' => YieldsC P ops w0 oi v a' ∧ K (a'.put oi.dst v)) a := by
  obtain ⟨h1, h2, h3⟩ := Oper.apart_spec hap
  have keep : ∀ (a : Act), YieldsC P ops w0 oi v a → ∀ u, YieldsC P ops w0 oi v (a.put oj.dst u) := fun a hy u =>
    hy.of_same (execOp_put oi hsi a oj.dst u h3) (wanted_put oi a oj.dst u h3)
  unfold cOp at *
  simp only [hj] at *
  rw [wanted_put oj a oi.dst v h1] at h
  split
  · rename_i hw
    simp only [hw, if_true] at h
    obtain ⟨u, hu, hn⟩ := h
    refine ⟨u, fun w hw' => ?_, keep a hy u, by rw [← Act.put_comm a v u h2]; exact hn⟩
    have := hu w hw'
    unfold Oper.quietAt at *
    rwa [execOp_put oj hsj a oi.dst v h1] at this
  · rename_i hw
    simp only [hw] at h
    exact ⟨keep a hy _, by rw [← Act.put_comm a v undef h2]; exact h⟩
/-- a maker: its number, its temporary, the block that it lays -/
structure Mk where
  i : Nat
  d : Tmp
  ob : Obj
def isMk (ms : List Mk) (i : Nat) : Bool := ms.any fun m => m.i == i
/-- a writer: its number, the maker whose block it fills, that maker's temporary, the temporary that it stores, what it asks of the value, what the block is then -/
structure Wr where
  i : Nat
  mi : Nat
  d : Tmp
  s : Tmp
  good : Value → Prop
  out : Value → Obj
def isWr (ws : List Wr) (i : Nat) : Bool := ws.any fun x => x.i == i
/-- what a writer asks of the frame -/
def wrOk (ws : List Wr) (i : Nat) (a : Act) : Prop := ∀ x ∈ ws, x.i = i → x.good (a.tmps.getD x.s undef)
def mOp (P : Program) (ops : Array Oper) (w0 : World) (ms : List Mk) (ws : List Wr) (i : Nat) (K : Act → Prop) (a : Act) : Prop :=
  if isMk ms i then K a else if isWr ws i then wrOk ws i a ∧ K a else cOp P ops w0 i K a
theorem mOp_mono {ms : List Mk} {ws : List Wr} {i : Nat} {a : Act} {K K' : Act → Prop} (h : ∀ a, K a → K' a) (hh : mOp P ops w0 ms ws i K a) : mOp P ops w0 ms ws i K' a := by
  unfold mOp at *
  split
  · rename_i hm; rw [if_pos hm] at hh; exact h _ hh
  · rename_i hm; rw [if_neg hm] at hh
    split
    · rename_i hw; rw [if_pos hw] at hh; exact ⟨hh.1, h _ hh.2⟩
    · rename_i hw; rw [if_neg hw] at hh; exact cOp_mono h hh
def anyLM (P : Program) (md : Region.Mode) (ops : Array Oper) (w0 : World) (ms : List Mk) (ws : List Wr) (n : Nat) (L : Array Bool → Act → Prop) : Nat → Array Bool → Act → Prop
  | 0, listed, a => L listed a
  | f + 1, listed, a => Region.ready md ops listed ≠ [] ∧ ∀ i ∈ Region.ready md ops listed, i < n ∧ mOp P ops w0 ms ws i (anyLM P md ops w0 ms ws n L f (listed.setIfInBounds i true)) a
/-- what is shown of the operation that is taken first -/
def FirstOk (P : Program) (ops : Array Oper) (w0 : World) (ms : List Mk) (ws : List Wr) (i : Nat) (oi : Oper) (a a' : Act) : Prop :=
  (isMk ms i = true ∧ a' = a) ∨ (isMk ms i = false ∧ isWr ws i = true ∧ wrOk ws i a ∧ a' = a) ∨ (isMk ms i = false ∧ isWr ws i = false ∧ ∃ v, YieldsC P ops w0 oi v a ∧ a' = a.put oi.dst v)
/-- a writer looks at what it stores, and has no temporary of its own -/
def WrLooks (ops : Array Oper) (x : Wr) : Prop := ∃ o, ops[x.i]? = some o ∧ o.dst = none ∧ x.s ∈ o.looksAt ops
theorem getD_put_ne (a : Act) (dst : Option Tmp) (v : Value) (s : Tmp) (h : dst ≠ some s) : (a.put dst v).tmps.getD s undef = a.tmps.getD s undef := by
  cases dst with
  | none => rfl
  | some d =>
    have hne : d ≠ s := fun e => h (by rw [e])
    simp [Act.put, hne]
theorem wrOk_put {ws : List Wr} (hlk : ∀ x ∈ ws, WrLooks ops x) {oi oj : Oper} {j : Nat} {v : Value} {a : Act} (hj : ops[j]? = some oj) (hap : ∀ d, oi.dst = some d → d ∉ oj.looksAt ops) : wrOk ws j (a.put oi.dst v) ↔ wrOk ws j a := by
  unfold wrOk
  constructor
  · intro h x hx hxi
    have := h x hx hxi
    obtain ⟨o, ho, _, hl⟩ := hlk x hx
    rw [hxi, hj] at ho
    injection ho with ho; subst ho
    rwa [getD_put_ne _ _ _ _ (fun e => hap _ e hl)] at this
  · intro h x hx hxi
    have := h x hx hxi
    obtain ⟨o, ho, _, hl⟩ := hlk x hx
    rw [hxi, hj] at ho
    injection ho with ho; subst ho
    rwa [getD_put_ne _ _ _ _ (fun e => hap _ e hl)]
theorem anyLM_first {ms : List Mk} {ws : List Wr} (hlk : ∀ x ∈ ws, WrLooks ops x) {n i : Nat} {oi : Oper} {L : Array Bool → Act → Prop} (hi : ops[i]? = some oi) (hsel : ∀ (j : Nat) (o : Oper) cs b, ops[j]? = some o → o.op ≠ .select cs b)
    (hs : Region.sinkB md ops n = true) (hc : Region.chainB md ops n = true) (hn : n < ops.size) (hin : i < n)
    (hdone : ∀ listed a, L listed a → ∀ j ∈ Region.ready md ops listed, n ≤ j) :
    ∀ (f : Nat) (listed : Array Bool) (a a' : Act), HeadInv md ops n listed →
      (∀ j oj, ops[j]? = some oj → j ≠ i → listed.getD j true = false → (∀ e ∈ oj.after, Region.binds md e = true → e.on ≠ i) → oi.apart ops oj = true) →
      i ∈ Region.ready md ops listed → FirstOk P ops w0 ms ws i oi a a' →
      anyLM P md ops w0 ms ws n L f (listed.setIfInBounds i true) a' → anyLM P md ops w0 ms ws n L (f + 1) listed a := by
  have own : ∀ (K : Act → Prop) (a a' : Act), FirstOk P ops w0 ms ws i oi a a' → K a' → mOp P ops w0 ms ws i K a := by
    intro K a a' hf hK
    unfold mOp
    rcases hf with ⟨h1, rfl⟩ | ⟨h1, h2, h3, rfl⟩ | ⟨h1, h2, v, hy, rfl⟩
    · rw [if_pos h1]; exact hK
    · rw [if_neg (by rw [h1]; exact Bool.false_ne_true), if_pos h2]; exact ⟨h3, hK⟩
    · rw [if_neg (by rw [h1]; exact Bool.false_ne_true), if_neg (by rw [h2]; exact Bool.false_ne_true)]; exact hy.cOp hi hK
  intro f
  induction f with
  | zero =>
    intro listed a a' inv _ hr hy H
    have hun := (mem_ready.1 hr).1
    refine ⟨fun h => (by rw [h] at hr; cases hr), fun j hj => ?_⟩
    have hjn : j < n := by
      rcases Nat.lt_or_ge j n with h | h
      · exact h
      · exact absurd hj (tail_waits hs hc hn inv _ i rfl hin hun j h)
    refine ⟨hjn, ?_⟩
    by_cases hji : j = i
    · subst hji; exact own _ _ _ hy H
    · have := hdone _ _ H j (ready_mono hj hji)
      omega
  | succ f ih =>
    intro listed a a' inv hfree hr hy H
    have hun := (mem_ready.1 hr).1
    refine ⟨fun h => (by rw [h] at hr; cases hr), fun j hj => ?_⟩
    have hjn : j < n := by
      rcases Nat.lt_or_ge j n with h | h
      · exact h
      · exact absurd hj (tail_waits hs hc hn inv _ i rfl hin hun j h)
    refine ⟨hjn, ?_⟩
    by_cases hji : j = i
    · subst hji; exact own _ _ _ hy H
    · have h1 := (H.2 j (ready_mono hj hji)).2
      obtain ⟨hjun, oj, hoj, hall⟩ := mem_ready.1 hj
      have hnot : ∀ e ∈ oj.after, Region.binds md e = true → e.on ≠ i := fun e he hb heq => by
        have h1 := hall e he hb
        rw [heq, getD_both hun] at h1
        cases h1
      have hfree' : ∀ k ok, ops[k]? = some ok → k ≠ i → (listed.setIfInBounds j true).getD k true = false →
          (∀ e ∈ ok.after, Region.binds md e = true → e.on ≠ i) → oi.apart ops ok = true := fun k ok hk hki hun hno => by
        refine hfree k ok hk hki ?_ hno
        by_cases hjk : j = k
        · subst hjk; exact hjun
        · rw [getD_set_ne true hjk] at hun; exact hun
      have fin : ∀ b b', FirstOk P ops w0 ms ws i oi b b' → anyLM P md ops w0 ms ws n L f ((listed.setIfInBounds i true).setIfInBounds j true) b' → anyLM P md ops w0 ms ws n L (f + 1) (listed.setIfInBounds j true) b := by
        intro b b' hb h3
        refine ih (listed.setIfInBounds j true) b b' (inv.set hj hjn) hfree' (ready_mono hr (Ne.symm hji)) hb ?_
        rw [Array.setIfInBounds_comm _ _ hji]
        exact h3
      have hapij := hfree j oj hoj hji hjun hnot
      unfold mOp at h1 ⊢
      by_cases hmj : isMk ms j = true
      · rw [if_pos hmj] at h1 ⊢
        exact fin _ _ hy h1
      · rw [if_neg hmj] at h1 ⊢
        by_cases hwj : isWr ws j = true
        · rw [if_pos hwj] at h1 ⊢
          refine ⟨?_, fin _ _ hy h1.2⟩
          rcases hy with ⟨hm, rfl⟩ | ⟨hm, _, _, rfl⟩ | ⟨hm, _, v, hy, rfl⟩
          · exact h1.1
          · exact h1.1
          · exact (wrOk_put hlk hoj (Oper.apart_spec hapij).1).1 h1.1
        · rw [if_neg hwj] at h1 ⊢
          rcases hy with ⟨hm, rfl⟩ | ⟨hm, hw, hg, rfl⟩ | ⟨hm, hw, v, hy, rfl⟩
          · exact cOp_mono (fun b h3 => fin b b (.inl ⟨hm, rfl⟩) h3) h1
          · -- a writer first: what it stores is not touched by j
            have keep : ∀ b v, wrOk ws i b → wrOk ws i (b.put oj.dst v) := fun b v hb => (wrOk_put (ops := ops) hlk (oi := oj) hi (fun d hd => (Oper.apart_spec hapij).2.2 d hd)).2 hb
            unfold cOp at h1 ⊢
            simp only [hoj] at h1 ⊢
            split
            · rename_i hwt; rw [if_pos hwt] at h1
              obtain ⟨v, e1, e2⟩ := h1
              exact ⟨v, e1, fin _ _ (.inr (.inl ⟨hm, hw, keep _ v hg, rfl⟩)) e2⟩
            · rename_i hwt; rw [if_neg hwt] at h1
              exact fin _ _ (.inr (.inl ⟨hm, hw, keep _ undef hg, rfl⟩)) h1
          · have h2 := cOp_put hoj hapij (fun cs b => hsel i oi cs b hi) (fun cs b => hsel j oj cs b hoj) hy h1
            exact cOp_mono (fun b h3 => fin b _ (.inr (.inr ⟨hm, hw, v, h3.1, rfl⟩)) h3.2) h2
/-- the lexical walk, the makers passed over -/
def wpM (P : Program) (ops : Array Oper) (w0 : World) (ms : List Mk) (ws : List Wr) (Q : Act → Prop) : Nat → List Oper → Act → Prop
  | _, [], a => Q a
  | k, o :: rest, a => if isMk ms k then wpM P ops w0 ms ws Q (k + 1) rest a else if isWr ws k then wrOk ws k a ∧ wpM P ops w0 ms ws Q (k + 1) rest a else
      if Region.wanted o (yielded ops a.tmps) then ∃ v, Oper.calm P o a w0 v ∧ wpM P ops w0 ms ws Q (k + 1) rest (a.put o.dst v) else wpM P ops w0 ms ws Q (k + 1) rest (a.put o.dst undef)
theorem anyLM_lex {ms : List Mk} {ws : List Wr} (hlk : ∀ x ∈ ws, WrLooks ops x) {n g : Nat} {Lq : Act → Prop} (hsel : Region.noSelect ops = true) (hs : Region.sinkB md ops n = true) (hc : Region.chainB md ops n = true) (hn : n < ops.size) :
    ∀ (l : List Oper) (k : Nat) (listed : Array Bool) (a : Act), (∀ j, j < l.length → l[j]? = ops[k + j]?) → k + l.length = n → HeadInv md ops n listed → (∀ j, j < k → listed.getD j false = true) →
    Region.lexHead md ops g l.length k listed = true → wpM P ops w0 ms ws Lq k l a →
    anyLM P md ops w0 ms ws n (fun listed' a' => (Region.seqB md ops g n listed' = true ∧ ∀ j, j < n → listed'.getD j false = true) ∧ Lq a') l.length listed a
  | [], k, listed, a, _, hk, _, hall, hB, h => by
    have : k = n := by simpa using hk
    subst this
    exact ⟨⟨by simpa [Region.lexHead] using hB, hall⟩, h⟩
  | o :: l, k, listed, a, hl, hk, inv, hall, hB, h => by
    have h0 : ops[k]? = some o := by simpa using (hl 0 (by simp)).symm
    simp only [List.length_cons, Region.lexHead, Bool.and_eq_true] at hB
    obtain ⟨⟨hr, hf⟩, hB'⟩ := hB
    have hkn : k < n := by simp only [List.length_cons] at hk; omega
    have hr' : k ∈ Region.ready md ops listed := by simpa using hr
    have hst : ∃ a', FirstOk P ops w0 ms ws k o a a' ∧ wpM P ops w0 ms ws Lq (k + 1) l a' := by
      unfold wpM at h
      by_cases hm : isMk ms k = true
      · rw [if_pos hm] at h; exact ⟨a, .inl ⟨hm, rfl⟩, h⟩
      · rw [if_neg hm] at h
        by_cases hwr : isWr ws k = true
        · rw [if_pos hwr] at h
          exact ⟨a, .inr (.inl ⟨by simpa using hm, hwr, h.1, rfl⟩), h.2⟩
        · rw [if_neg hwr] at h
          by_cases hw : Region.wanted o (yielded ops a.tmps) = true
          · rw [if_pos hw] at h
            obtain ⟨v, h1, h2⟩ := h
            exact ⟨_, .inr (.inr ⟨by simpa using hm, by simpa using hwr, v, .inl ⟨hw, h1⟩, rfl⟩), h2⟩
          · rw [if_neg hw] at h
            exact ⟨_, .inr (.inr ⟨by simpa using hm, by simpa using hwr, undef, .inr ⟨by simpa using hw, rfl⟩, rfl⟩), h⟩
    obtain ⟨a', hy, hK⟩ := hst
    exact anyLM_first hlk h0 (Region.noSelect_spec hsel) hs hc hn hkn (fun listed' a' hL => seqB_ready hL.1.1) l.length listed a a' inv (Region.free_spec h0 hf) hr' hy
      (anyLM_lex hlk hsel hs hc hn l (k + 1) _ _ (fun j hj => by have := hl (j + 1) (by simp; omega); simpa [Nat.add_assoc, Nat.add_comm 1 j] using this) (by simp only [List.length_cons] at hk; omega) (inv.set hr' hkn) (fun j hj => by
        by_cases e : k = j
        · subst e
          have : k < listed.size := by rw [inv.size]; exact (Array.getElem?_eq_some_iff.1 h0).1
          simp [this]
        · rw [getD_set_ne false e]; exact hall j (by omega)) hB' hK)
/-! ### the makers laid in -/
def ptrAt (g : Nat) : Value := .pointer (some ⟨g, 0, none⟩)
def fill (γ : Nat → Nat) (listed : Array Bool) : List Mk → Act → Act
  | [], a => a
  | m :: ms, a => if listed.getD m.i false then (fill γ listed ms a).put (some m.d) (ptrAt (γ m.i)) else fill γ listed ms a
theorem fill_put {γ : Nat → Nat} {listed : Array Bool} {dst : Option Tmp} {v : Value} : ∀ (ms : List Mk) (a : Act), (∀ m ∈ ms, dst ≠ some m.d) → fill γ listed ms (a.put dst v) = (fill γ listed ms a).put dst v
  | [], _, _ => rfl
  | m :: ms, a, h => by
    unfold fill
    have ih := fill_put (γ := γ) (listed := listed) (v := v) ms a (fun x hx => h x (List.mem_cons_of_mem _ hx))
    split
    · rw [ih, Act.put_comm]
      intro d hd hd'
      exact h m (List.mem_cons_self ..) (by rw [hd, hd'])
    · exact ih
theorem fill_same {γ γ' : Nat → Nat} {listed listed' : Array Bool} : ∀ (ms : List Mk) (a : Act), (∀ m ∈ ms, listed'.getD m.i false = listed.getD m.i false ∧ (listed.getD m.i false = true → γ' m.i = γ m.i)) → fill γ' listed' ms a = fill γ listed ms a
  | [], _, _ => rfl
  | m :: ms, a, h => by
    unfold fill
    obtain ⟨h1, h2⟩ := h m (List.mem_cons_self ..)
    rw [fill_same ms a (fun x hx => h x (List.mem_cons_of_mem _ hx)), h1]
    split
    · rename_i hh; rw [h2 hh]
    · rfl
theorem fill_list {γ : Nat → Nat} {listed : Array Bool} {g : Nat} : ∀ (ms : List Mk) (a : Act) (m : Mk), m ∈ ms → (ms.map (·.i)).Nodup → (ms.map (·.d)).Nodup → listed.getD m.i false = false → m.i < listed.size →
    fill (fun j => if j = m.i then g else γ j) (listed.setIfInBounds m.i true) ms a = (fill γ listed ms a).put (some m.d) (ptrAt g)
  | [], _, _, h, _, _, _, _ => by cases h
  | x :: ms, a, m, h, hi, hd, hl, hsz => by
    simp only [List.map_cons, List.nodup_cons] at hi hd
    have set_i : (listed.setIfInBounds m.i true).getD m.i false = true := by simp [hsz]
    unfold fill
    rcases List.mem_cons.1 h with rfl | h'
    · rw [set_i, hl]
      simp only [if_true, Bool.false_eq_true, if_false]
      rw [fill_same (γ := γ) (listed := listed)]
      intro y hy
      have hne : m.i ≠ y.i := fun e => hi.1 (by rw [e]; exact List.mem_map_of_mem hy)
      exact ⟨getD_set_ne false hne, fun _ => if_neg (Ne.symm hne)⟩
    · have hne : m.i ≠ x.i := fun e => hi.1 (by rw [← e]; exact List.mem_map_of_mem h')
      have hxd : m.d ≠ x.d := fun e => hd.1 (by rw [← e]; exact List.mem_map_of_mem h')
      have ih := fill_list (γ := γ) (g := g) ms a m h' hi.2 hd.2 hl hsz
      rw [ih, getD_set_ne false hne, if_neg (Ne.symm hne)]
      split
      · rw [Act.put_comm]
        intro d e1 e2
        injection e1 with e1; injection e2 with e2; exact hxd (e1.trans e2.symm)
      · rfl
/-- the makers are what they are said to be -/
def MkOk (P : Program) (ops : Array Oper) (n : Nat) (m : Mk) : Prop :=
  ∃ o, ops[m.i]? = some o ∧ o.dst = some m.d ∧ o.guard = none ∧ m.i < n ∧ ∀ ev w, (execOp ev o).run P w = .ok (.value (ptrAt w.heap.size)) (w.alloc m.ob)
def sepB (ops : Array Oper) (ms : List Mk) (ws : List Wr) (n : Nat) : Bool :=
  (ms.all fun m => match ops[m.i]? with
    | some om => (List.range n).all fun j => isMk ms j || isWr ws j || match ops[j]? with
      | some oj => om.apart ops oj
      | none => true
    | none => false) &&
  ws.all fun x => match ops[x.i]? with
    | some _ => (!isMk ms x.i) && (List.range n).all fun j => isMk ms j || isWr ws j || match ops[j]? with
      | some oj => (match oj.dst with | some d => d != x.s | none => true) || Region.waitsFor .any ops x.i j
      | none => true
    | none => false
/-- what a writer does -/
def WrOk (P : Program) (ops : Array Oper) (ms : List Mk) (n : Nat) (x : Wr) : Prop :=
  ∃ o m, ops[x.i]? = some o ∧ o.dst = none ∧ o.guard = none ∧ x.i < n ∧ m ∈ ms ∧ m.i = x.mi ∧ m.d = x.d ∧ (∀ y ∈ ms, y.d ≠ x.s) ∧ Region.waitsFor .any ops x.i x.mi = true ∧
    ∀ (a : Act) (g : Nat) (w : World), a.tmps.getD x.d undef = ptrAt g → x.good (a.tmps.getD x.s undef) → w.heap[g]? = some m.ob →
      ∃ nx w', (execOp a.eval o).run P w = .ok nx w' ∧ (nx = .skip ∨ ∃ u, nx = .value u) ∧ w'.os = w.os ∧ w'.tape = w.tape ∧ w'.output = w.output ∧ w'.heap.size = w.heap.size ∧
        (∀ k, k ≠ g → w'.heap[k]? = w.heap[k]?) ∧ w'.heap[g]? = some (x.out (a.tmps.getD x.s undef))
/-- the block of a maker, as far as the operations have gone -/
def objOf (ws : List Wr) (listed : Array Bool) (aq : Act) (m : Mk) : Obj :=
  match ws.find? fun x => x.mi == m.i && listed.getD x.i false with
  | some x => x.out (aq.tmps.getD x.s undef)
  | none => m.ob
theorem find_congr' {α : Type} {p q : α → Bool} : ∀ (l : List α), (∀ x ∈ l, p x = q x) → l.find? p = l.find? q
  | [], _ => rfl
  | x :: l, h => by
    simp only [List.find?_cons, h x (List.mem_cons_self ..)]
    split
    · rfl
    · exact find_congr' l fun y hy => h y (List.mem_cons_of_mem _ hy)
theorem objOf_congr {ws : List Wr} {listed listed' : Array Bool} {aq aq' : Act} {m : Mk} (h1 : ∀ x ∈ ws, x.mi = m.i → listed'.getD x.i false = listed.getD x.i false)
    (h2 : ∀ x ∈ ws, listed.getD x.i false = true → aq'.tmps.getD x.s undef = aq.tmps.getD x.s undef) : objOf ws listed' aq' m = objOf ws listed aq m := by
  unfold objOf
  have e : (ws.find? fun x => x.mi == m.i && listed'.getD x.i false) = ws.find? fun x => x.mi == m.i && listed.getD x.i false := by
    apply find_congr'
    intro x hx
    by_cases e : x.mi = m.i
    · rw [h1 x hx e]
    · have : (x.mi == m.i) = false := by simpa using e
      rw [this]; rfl
  rw [e]
  cases hf : ws.find? fun x => x.mi == m.i && listed.getD x.i false with
  | none => rfl
  | some x =>
    have hx := List.mem_of_find?_eq_some hf
    have hp := List.find?_some hf
    simp only [Bool.and_eq_true] at hp
    simp only
    rw [h2 x hx hp.2]
structure Inv (md : Region.Mode) (ops : Array Oper) (n : Nat) (w0 : World) (ms : List Mk) (ws : List Wr) (γ : Nat → Nat) (listed : Array Bool) (aq a : Act) (w : World) : Prop where
  below : Below w0.heap.size w0 w
  act : a = fill γ listed ms aq
  head : HeadInv md ops n listed
  sz : ∀ m ∈ ms, m.d < aq.tmps.size
  held : ∀ m ∈ ms, listed.getD m.i false = true → w0.heap.size ≤ γ m.i ∧ w.heap[γ m.i]? = some (objOf ws listed aq m)
  ne : ∀ m ∈ ms, ∀ m' ∈ ms, m.i ≠ m'.i → listed.getD m.i false = true → listed.getD m'.i false = true → γ m.i ≠ γ m'.i
theorem lt_of_heap {w : World} {g : Nat} {o : Obj} (h : w.heap[g]? = some o) : g < w.heap.size := by
  rcases Nat.lt_or_ge g w.heap.size with h' | h'
  · exact h'
  · rw [Array.getElem?_eq_none h'] at h; cases h
theorem inj_of_nodup {ms : List Mk} (h : (ms.map (·.i)).Nodup) {m m' : Mk} (hm : m ∈ ms) (hm' : m' ∈ ms) (e : m.i = m'.i) : m = m' := by
  induction ms with
  | nil => cases hm
  | cons x ms ih =>
    simp only [List.map_cons, List.nodup_cons] at h
    rcases List.mem_cons.1 hm with rfl | h1 <;> rcases List.mem_cons.1 hm' with rfl | h2
    · rfl
    · exact absurd (e ▸ List.mem_map_of_mem h2) h.1
    · exact absurd (e.symm ▸ List.mem_map_of_mem h1) h.1
    · exact ih h.2 h1 h2
theorem eval_fill {γ : Nat → Nat} {listed : Array Bool} {o : Oper} (hs : ∀ cs b, o.op ≠ .select cs b) : ∀ (ms : List Mk) (a : Act), (∀ m ∈ ms, m.d ∉ o.looksAt ops) →
    execOp (fill γ listed ms a).eval o = execOp a.eval o ∧ Region.wanted o (yielded ops (fill γ listed ms a).tmps) = Region.wanted o (yielded ops a.tmps)
  | [], _, _ => ⟨rfl, rfl⟩
  | m :: ms, a, h => by
    have ih := eval_fill (γ := γ) (listed := listed) hs ms a (fun x hx => h x (List.mem_cons_of_mem _ hx))
    unfold fill
    split
    · have hm := h m (List.mem_cons_self ..)
      have hp : ∀ d, some m.d = some d → d ∉ o.looksAt ops := by intro d hd; cases hd; exact hm
      rw [execOp_put (ops := ops) o hs _ _ _ hp, wanted_put o _ _ _ hp]
      exact ih
    · exact ih
theorem fill_other {γ : Nat → Nat} {listed : Array Bool} {s : Tmp} : ∀ (ms : List Mk) (a : Act), (∀ m ∈ ms, m.d ≠ s) → (fill γ listed ms a).tmps.getD s undef = a.tmps.getD s undef
  | [], _, _ => rfl
  | m :: ms, a, h => by
    unfold fill
    have ih := fill_other (γ := γ) (listed := listed) ms a (fun x hx => h x (List.mem_cons_of_mem _ hx))
    split
    · rw [getD_put_ne _ _ _ _ (by intro e; injection e with e; exact h m (List.mem_cons_self ..) e)]; exact ih
    · exact ih
theorem fill_size {γ : Nat → Nat} {listed : Array Bool} : ∀ (ms : List Mk) (a : Act), (fill γ listed ms a).tmps.size = a.tmps.size
  | [], _ => rfl
  | m :: ms, a => by
    unfold fill
    split
    · simp [Act.put, fill_size ms a]
    · exact fill_size ms a
theorem fill_own {γ : Nat → Nat} {listed : Array Bool} {m : Mk} : ∀ (ms : List Mk) (a : Act), m ∈ ms → (ms.map (·.d)).Nodup → m.d < a.tmps.size → listed.getD m.i false = true → (fill γ listed ms a).tmps.getD m.d undef = ptrAt (γ m.i)
  | [], _, h, _, _, _ => by cases h
  | x :: ms, a, h, hd, hsz, hl => by
    simp only [List.map_cons, List.nodup_cons] at hd
    unfold fill
    rcases List.mem_cons.1 h with rfl | h'
    · rw [if_pos hl]
      have : m.d < (fill γ listed ms a).tmps.size := by rw [fill_size]; exact hsz
      simp [Act.put, this]
    · have hne : x.d ≠ m.d := fun e => hd.1 (by rw [e]; exact List.mem_map_of_mem h')
      have ih := fill_own (γ := γ) ms a h' hd.2 hsz hl
      split
      · rw [getD_put_ne _ _ _ _ (by intro e; injection e with e; exact hne e)]; exact ih
      · exact ih
theorem uniq_by {α β : Type} (f : α → β) : ∀ (l : List α), (l.map f).Nodup → ∀ y ∈ l, ∀ x ∈ l, f y = f x → y = x
  | [], _, _, hy, _, _, _ => by cases hy
  | z :: l, h, y, hy, x, hx, e => by
    simp only [List.map_cons, List.nodup_cons] at h
    rcases List.mem_cons.1 hy with rfl | h1 <;> rcases List.mem_cons.1 hx with rfl | h2
    · rfl
    · exact absurd (e ▸ List.mem_map_of_mem h2) h.1
    · exact absurd (e.symm ▸ List.mem_map_of_mem h1) h.1
    · exact uniq_by f l h.2 y h1 x h2 e
theorem put_size (a : Act) (d : Option Tmp) (v : Value) : (a.put d v).tmps.size = a.tmps.size := by cases d <;> simp [Act.put]
theorem any_of_headM {ms : List Mk} {ws : List Wr} {n g : Nat} {L : Array Bool → Act → Prop} {Q' : Exit → Act → World → Prop}
    (hsel : ∀ (j : Nat) (o : Oper) cs b, ops[j]? = some o → o.op ≠ .select cs b)
    (hok : ∀ m ∈ ms, MkOk P ops n m) (hwok : ∀ x ∈ ws, WrOk P ops ms n x) (hmd : md = .any) (hsep : sepB ops ms ws n = true) (hni : (ms.map (·.i)).Nodup) (hnd : (ms.map (·.d)).Nodup) (hwi : (ws.map (·.i)).Nodup) (hwm : (ws.map (·.mi)).Nodup)
    (hL : ∀ γ listed aq a w, Inv md ops n w0 ms ws γ listed aq a w → L listed aq → wpAny P md ops Q' g listed a w) :
    ∀ (f : Nat) (γ : Nat → Nat) (listed : Array Bool) (aq a : Act) (w : World), Inv md ops n w0 ms ws γ listed aq a w → anyLM P md ops w0 ms ws n L f listed aq → wpAny P md ops Q' (f + g) listed a w
  | 0, γ, listed, aq, a, w, hinv, h => by rw [Nat.zero_add]; exact hL _ _ _ _ _ hinv h
  | f + 1, γ, listed, aq, a, w, hinv, h => by
    have hsz := hinv.head.size
    have wdep : ∀ x ∈ ws, listed.getD x.i false = true → listed.getD x.mi false = true := fun x hx hl => by
      obtain ⟨o, m, ho, _, _, _, _, _, _, _, hwt, _⟩ := hwok x hx
      obtain ⟨o', ho', e, he, hb, hon⟩ := Region.waitsFor_spec hwt
      rw [← hon]; exact hinv.head.closed x.i o' ho' hl e he (by rw [hmd]; exact hb)
    rw [show f + 1 + g = (f + g) + 1 by omega]
    refine ⟨fun h0 => absurd h0 h.1, fun i hi => ?_⟩
    have hun := (mem_ready.1 hi).1
    obtain ⟨hin, hop⟩ := h.2 i hi
    have ih := any_of_headM (Q' := Q') hsel hok hwok hmd hsep hni hnd hwi hwm hL f
    have hmw : ∀ m ∈ ms, ∀ x ∈ ws, m.i ≠ x.i := by
      intro m hm x hx e
      simp only [sepB, Bool.and_eq_true] at hsep
      have h1 := List.all_eq_true.1 hsep.2 x hx
      obtain ⟨o, _, ho, _⟩ := hwok x hx
      simp only [ho, Bool.and_eq_true, Bool.not_eq_true'] at h1
      have hk : isMk ms x.i = true := List.any_eq_true.2 ⟨m, hm, by simpa using e⟩
      rw [hk] at h1; exact absurd h1.1 (by simp)
    unfold mOp at hop
    by_cases hm : isMk ms i = true
    · rw [if_pos hm] at hop
      obtain ⟨m, hmem, hmi⟩ := List.any_eq_true.1 hm
      obtain rfl : m.i = i := by simpa using hmi
      obtain ⟨o, ho, hd, hgd, _, hrun⟩ := hok m hmem
      have hlt : m.i < listed.size := by rw [hsz]; exact (Array.getElem?_eq_some_iff.1 ho).1
      unfold wpOp
      simp only [ho]
      rw [if_pos (by simp [Region.wanted, hgd])]
      refine .inl ?_
      unfold Oper.wp
      rw [hrun]
      show wpAny P md ops Q' (f + g) (listed.setIfInBounds m.i true) (a.put o.dst (ptrAt w.heap.size)) (w.alloc m.ob)
      refine ih (fun j => if j = m.i then w.heap.size else γ j) _ aq _ _ ⟨hinv.below.alloc hinv.below.size _, ?_, hinv.head.set hi hin, hinv.sz, ?_, ?_⟩ hop
      · rw [fill_list ms aq m hmem hni hnd (getD_both hun) hlt, hinv.act, hd]
      · intro m' hm' hl
        by_cases e : m'.i = m.i
        · simp only [e, if_true]
          have : m' = m := inj_of_nodup hni hm' hmem e
          subst this
          refine ⟨hinv.below.size, ?_⟩
          rw [heap_alloc_new w _]
          congr 1
          have hnone : (ws.find? fun x => x.mi == m'.i && (listed.setIfInBounds m'.i true).getD x.i false) = none := by
            rw [List.find?_eq_none]
            intro x hx hp
            simp only [Bool.and_eq_true, beq_iff_eq] at hp
            have hxi : m'.i ≠ x.i := hmw m' hm' x hx
            rw [getD_set_ne false hxi] at hp
            have := wdep x hx hp.2
            rw [hp.1, getD_both hun] at this
            cases this
          unfold objOf; rw [hnone]
        · simp only [e, if_false]
          rw [getD_set_ne false (Ne.symm e)] at hl
          obtain ⟨h1, h2⟩ := hinv.held m' hm' hl
          refine ⟨h1, ?_⟩
          rw [Below.heap_alloc w _ _ (lt_of_heap h2), objOf_congr (listed := listed) (aq := aq) (fun x hx _ => getD_set_ne false (hmw m hmem x hx)) (fun _ _ _ => rfl)]; exact h2
      · intro x hx y hy hxy hlx hly
        by_cases ex : x.i = m.i
        · have ey : y.i ≠ m.i := fun e => hxy (by rw [ex, e])
          rw [if_pos ex, if_neg ey]
          rw [getD_set_ne false (Ne.symm ey)] at hly
          have := lt_of_heap (hinv.held y hy hly).2
          omega
        · by_cases ey : y.i = m.i
          · rw [if_neg ex, if_pos ey]
            rw [getD_set_ne false (Ne.symm ex)] at hlx
            have := lt_of_heap (hinv.held x hx hlx).2
            omega
          · rw [if_neg ex, if_neg ey]
            rw [getD_set_ne false (Ne.symm ex)] at hlx
            rw [getD_set_ne false (Ne.symm ey)] at hly
            exact hinv.ne x hx y hy hxy hlx hly
    · rw [if_neg hm] at hop
      have hni' : ∀ m ∈ ms, m.i ≠ i := by
        intro m hmem e
        exact hm (List.any_eq_true.2 ⟨m, hmem, by simpa using e⟩)
      by_cases hwr : isWr ws i = true
      · rw [if_pos hwr] at hop
        obtain ⟨hgd, hop⟩ := hop
        obtain ⟨x, hx, hxi⟩ := List.any_eq_true.1 hwr
        obtain rfl : x.i = i := by simpa using hxi
        obtain ⟨o, m, ho, hod, hog, hxn, hmem, hmi, hmd', hds, hwt, hrun⟩ := hwok x hx
        have hml : listed.getD m.i false = true := by
          obtain ⟨o', ho', e, he, hb, hon⟩ := Region.waitsFor_spec hwt
          obtain ⟨_, oi, hoi, hall⟩ := mem_ready.1 hi
          have : o' = oi := Option.some.inj (ho'.symm.trans hoi)
          subst this
          have := hall e he (by rw [hmd]; exact hb)
          rw [hon] at this; rw [hmi]; exact this
        obtain ⟨g1, g2⟩ := hinv.held m hmem hml
        have hob : objOf ws listed aq m = m.ob := by
          have hnone : (ws.find? fun y => y.mi == m.i && listed.getD y.i false) = none := by
            rw [List.find?_eq_none]
            intro y hy hp
            simp only [Bool.and_eq_true, beq_iff_eq] at hp
            have : y = x := by
              exact uniq_by (·.mi) ws hwm y hy x hx (by rw [hp.1, hmi])
            subst this
            rw [getD_both hun] at hp; cases hp.2
          unfold objOf; rw [hnone]
        have e1 : a.tmps.getD x.d undef = ptrAt (γ m.i) := by rw [hinv.act, ← hmd']; exact fill_own ms aq hmem hnd (hinv.sz m hmem) hml
        have e2 : a.tmps.getD x.s undef = aq.tmps.getD x.s undef := by rw [hinv.act]; exact fill_other ms aq hds
        obtain ⟨nx, w', hr, hnx, r1, r2, r3, r4, r5, r6⟩ := hrun a (γ m.i) w e1 (by rw [e2]; exact hgd x hx rfl) (by rw [g2, hob])
        unfold wpOp
        simp only [ho]
        rw [if_pos (by simp [Region.wanted, hog])]
        refine .inl ?_
        unfold Oper.wp
        rw [hr]
        have hput : ∀ v, a.put o.dst v = a := by intro v; rw [hod]; rfl
        have hlt : x.i < listed.size := by rw [hsz]; exact (Array.getElem?_eq_some_iff.1 ho).1
        have goal : wpAny P md ops Q' (f + g) (listed.setIfInBounds x.i true) a w' := by
          refine ih γ _ aq _ _ ⟨?_, ?_, hinv.head.set hi hin, hinv.sz, ?_, ?_⟩ hop
          · refine ⟨r1.trans hinv.below.os, r2.trans hinv.below.tape, r3.trans hinv.below.output, by rw [r4]; exact hinv.below.size, fun k hk => ?_⟩
            rw [r5 k (by omega)]; exact hinv.below.block k hk
          · rw [hinv.act]
            exact (fill_same ms aq fun y hy => ⟨getD_set_ne false (Ne.symm (hni' y hy)), fun _ => rfl⟩).symm
          · intro y hy hl
            rw [getD_set_ne false (Ne.symm (hni' y hy))] at hl
            obtain ⟨q1, q2⟩ := hinv.held y hy hl
            refine ⟨q1, ?_⟩
            by_cases e : y.i = m.i
            · have : y = m := inj_of_nodup hni hy hmem e
              subst this
              rw [r6, e2]
              congr 1
              unfold objOf
              cases hf : ws.find? fun z => z.mi == y.i && (listed.setIfInBounds x.i true).getD z.i false with
              | none =>
                rw [List.find?_eq_none] at hf
                exact absurd (hf x hx) (by simp [hmi, hlt])
              | some z =>
                have hz := List.mem_of_find?_eq_some hf
                have hp := List.find?_some hf
                simp only [Bool.and_eq_true, beq_iff_eq] at hp
                have : z = x := by
                  exact uniq_by (·.mi) ws hwm z hz x hx (by rw [hp.1, hmi])
                rw [this]
            · have hne := hinv.ne y hy m hmem e hl hml
              rw [r5 _ hne, q2]
              congr 1
              refine (objOf_congr (fun z hz hzm => getD_set_ne false ?_) (fun _ _ _ => rfl)).symm
              intro e'
              have hzx : z = x := by
                exact uniq_by (·.i) ws hwi z hz x hx e'.symm
              subst hzx
              exact e (by rw [← hzm, hmi])
          · intro y hy z hz hyz hly hlz
            rw [getD_set_ne false (Ne.symm (hni' y hy))] at hly
            rw [getD_set_ne false (Ne.symm (hni' z hz))] at hlz
            exact hinv.ne y hy z hz hyz hly hlz
        rcases hnx with rfl | ⟨u, rfl⟩
        · show wpAny P md ops Q' (f + g) _ (a.put o.dst undef) w'
          rw [hput]; exact goal
        · show wpAny P md ops Q' (f + g) _ (a.put o.dst u) w'
          rw [hput]; exact goal
      rw [if_neg hwr] at hop
      -- the operation number i
      cases ho : ops[i]? with
      | none =>
        obtain ⟨_, o, ho', _⟩ := mem_ready.1 hi
        rw [ho] at ho'; cases ho'
      | some o =>
        have hap : ∀ m ∈ ms, ∃ om, ops[m.i]? = some om ∧ om.dst = some m.d ∧ om.apart ops o = true := by
          intro m hmem
          obtain ⟨om, hom, hd, _, _, _⟩ := hok m hmem
          simp only [sepB, Bool.and_eq_true] at hsep
          have h1 := List.all_eq_true.1 hsep.1 m hmem
          simp only [hom] at h1
          have h2 := List.all_eq_true.1 h1 i (List.mem_range.2 hin)
          simp only [ho, Bool.or_eq_true] at h2
          rcases h2 with (h2 | h2) | h2
          · exact absurd h2 hm
          · exact absurd h2 hwr
          · exact ⟨om, hom, hd, h2⟩
        -- what a writer that has gone stores is not touched
        have hws : ∀ x ∈ ws, listed.getD x.i false = true → o.dst ≠ some x.s := fun x hx hl e => by
          simp only [sepB, Bool.and_eq_true] at hsep
          have h1 := List.all_eq_true.1 hsep.2 x hx
          obtain ⟨ox, _, hox, _⟩ := hwok x hx
          simp only [hox, Bool.and_eq_true] at h1
          have h2 := List.all_eq_true.1 h1.2 i (List.mem_range.2 hin)
          simp only [ho, Bool.or_eq_true] at h2
          rcases h2 with (h2 | h2) | h2
          · exact hm h2
          · exact hwr h2
          · rw [e] at h2
            rcases h2 with h2 | h2
            · simp at h2
            · obtain ⟨o', ho', e', he', hb', hon⟩ := Region.waitsFor_spec h2
              have := hinv.head.closed x.i o' ho' hl e' he' (by rw [hmd]; exact hb')
              rw [hon, getD_both hun] at this
              cases this
        have hwne : ∀ x ∈ ws, i ≠ x.i := fun x hx e => hwr (List.any_eq_true.2 ⟨x, hx, by simpa using e.symm⟩)
        have hlook : ∀ m ∈ ms, m.d ∉ o.looksAt ops := fun m hmem => by
          obtain ⟨om, _, hd, h2⟩ := hap m hmem
          exact (Oper.apart_spec h2).1 _ hd
        have hdst : ∀ m ∈ ms, o.dst ≠ some m.d := fun m hmem => by
          obtain ⟨om, _, hd, h2⟩ := hap m hmem
          exact (Oper.apart_spec h2).2.1 _ hd
        obtain ⟨e1, e2⟩ := eval_fill (γ := γ) (listed := listed) (ops := ops) (hsel i o · · ho) ms aq hlook
        have step : ∀ (w' : World) (v : Value) (l' : Array Bool), l' = listed.setIfInBounds i true → Below w.heap.size w w' → anyLM P md ops w0 ms ws n L f l' (aq.put o.dst v) → wpAny P md ops Q' (f + g) l' (a.put o.dst v) w' := by
          intro w' v l' hl' hb hh
          subst hl'
          refine ih γ _ (aq.put o.dst v) _ _ ⟨b_trans hinv.below hb, ?_, hinv.head.set hi hin, fun m hmem => by rw [put_size]; exact hinv.sz m hmem, ?_, ?_⟩ hh
          · rw [hinv.act, fill_put ms aq hdst]
            congr 1
            exact (fill_same ms aq fun m hmem => ⟨getD_set_ne false (Ne.symm (hni' m hmem)), fun _ => rfl⟩).symm
          · intro m hmem hl
            rw [getD_set_ne false (Ne.symm (hni' m hmem))] at hl
            obtain ⟨h1, h2⟩ := hinv.held m hmem hl
            refine ⟨h1, ?_⟩
            rw [hb.block _ (lt_of_heap h2), h2]
            congr 1
            exact (objOf_congr (fun x hx _ => getD_set_ne false (hwne x hx)) (fun x hx hl => getD_put_ne _ _ _ _ (hws x hx hl))).symm
          · intro x hx y hy hxy hlx hly
            rw [getD_set_ne false (Ne.symm (hni' x hx))] at hlx
            rw [getD_set_ne false (Ne.symm (hni' y hy))] at hly
            exact hinv.ne x hx y hy hxy hlx hly
        unfold cOp at hop
        unfold wpOp
        simp only [ho] at hop ⊢
        rw [hinv.act, e2]
        split
        · rename_i hw
          rw [if_pos hw] at hop
          obtain ⟨v, h1, h2⟩ := hop
          refine .inl ?_
          have h3 := h1 w hinv.below
          unfold Oper.quietAt at h3
          unfold Oper.wp
          rw [e1]
          have act := hinv.act
          generalize (execOp aq.eval o).run P w = r at h3
          cases r with
          | ok x w' =>
            cases x <;> simp only [Oper.quietUpon] at h3 <;> simp only [Oper.upon]
            case value u =>
              obtain ⟨rfl, rfl⟩ := h3
              rw [← act]
              exact step _ _ _ rfl (Below.refl _ _) h2
            case skip =>
              obtain ⟨rfl, rfl⟩ := h3
              rw [← act]
              exact step _ _ _ rfl (Below.refl _ _) h2
            case enter fn args =>
              obtain ⟨rfl, hc⟩ := h3
              exact hc.mono fun e w'' ⟨he, hw''⟩ => by
                subst he
                rw [← act]
                exact step _ _ _ rfl hw'' h2
          | halt x w' => simp only [Oper.quietUpon] at h3
        · rename_i hw
          rw [if_neg hw] at hop
          rw [← hinv.act]
          exact step _ _ _ rfl (Below.refl _ _) hop
theorem fill_all {γ : Nat → Nat} {listed : Array Bool} : ∀ (ms : List Mk) (a : Act), (∀ m ∈ ms, listed.getD m.i false = true) → fill γ listed ms a = ms.foldr (fun m a => a.put (some m.d) (ptrAt (γ m.i))) a
  | [], _, _ => rfl
  | m :: ms, a, h => by
    unfold fill
    rw [if_pos (h m (List.mem_cons_self ..)), fill_all ms a (fun x hx => h x (List.mem_cons_of_mem _ hx))]
    rfl
/-- what is asked behind the head -/
def After (P : Program) (l : List Oper) (n : Nat) (ms : List Mk) (ws : List Wr) (w : World) (Q : Exit → Act → World → Prop) (aq : Act) : Prop :=
  ∀ (γ : Nat → Nat) (w' : World), Below w.heap.size w w' → (∀ m ∈ ms, w.heap.size ≤ γ m.i ∧ w'.heap[γ m.i]? = some (match ws.find? fun x => x.mi == m.i with | some x => x.out (aq.tmps.getD x.s undef) | none => m.ob)) →
    (∀ m ∈ ms, ∀ m' ∈ ms, m.i ≠ m'.i → γ m.i ≠ γ m'.i) → wpList P l.toArray Q (l.drop n) (ms.foldr (fun m a => a.put (some m.d) (ptrAt (γ m.i))) aq) w'
theorem wp_region_makers {id : Nat} {Q : Exit → Act → World → Prop} {a : Act} {l : List Oper} {w : World} (ms : List Mk) (ws : List Wr) (n : Nat) (hm : P.follows .mixedOrders = true) (hB : Region.lexTailB .any l.toArray n = true)
    (hok : ∀ m ∈ ms, MkOk P l.toArray n m) (hwok : ∀ x ∈ ws, WrOk P l.toArray ms n x) (hlk : ∀ x ∈ ws, WrLooks l.toArray x) (hsep : sepB l.toArray ms ws n = true) (hni : (ms.map (·.i)).Nodup) (hnd : (ms.map (·.d)).Nodup) (hwi : (ws.map (·.i)).Nodup) (hwm : (ws.map (·.mi)).Nodup)
    (hsz : ∀ m ∈ ms, m.d < a.tmps.size)
    (h : wpM P l.toArray w ms ws (After P l n ms ws w Q) 0 (l.take n) a) : (Code.region id l.toArray true).wp P Q a w := by
  simp only [Region.lexTailB, Bool.and_eq_true, decide_eq_true_eq] at hB
  obtain ⟨⟨⟨⟨hsel, hn⟩, hs⟩, hc⟩, hlex⟩ := hB
  have hn' : n < l.length := by simpa using hn
  have htl : (l.take n).length = n := by simp; omega
  have hdl : (l.drop n).length = l.toArray.size - n := by simp
  have inv0 : HeadInv .any l.toArray n (Array.replicate l.toArray.size false) :=
    ⟨by simp, fun j oj _ hl => (by rw [getD_replicate_false] at hl; cases hl), fun t _ ht => getD_in (by simpa using ht) (getD_replicate_false _ _)⟩
  have H := anyLM_lex (P := P) (ops := l.toArray) (w0 := w) (ms := ms) (ws := ws) (md := .any) (g := l.toArray.size - n) hlk hsel hs hc hn (l.take n) 0 _ a (fun j hj => by
    have hj' : j < n := by rw [htl] at hj; exact hj
    simp [hj']) (by simpa using htl) inv0 (fun j hj => absurd hj (by omega)) (by rw [htl]; exact hlex) h
  refine wp_region_any hm ?_
  have := any_of_headM (P := P) (Q' := Q) (md := .any) (w0 := w) (ops := l.toArray) (g := l.toArray.size - n) (Region.noSelect_spec hsel) hok hwok rfl hsep hni hnd hwi hwm (fun γ listed aq a' w' hinv hL => by
    have hall : ∀ m ∈ ms, listed.getD m.i false = true := fun m hmem => by
      obtain ⟨_, _, _, _, hin, _⟩ := hok m hmem
      exact hL.1.2 _ hin
    have hq := hL.2 γ w' hinv.below (fun m hmem => by
      obtain ⟨q1, q2⟩ := hinv.held m hmem (hall m hmem)
      refine ⟨q1, ?_⟩
      rw [q2]
      congr 1
      unfold objOf
      rw [find_congr' ws (p := fun x => x.mi == m.i && listed.getD x.i false) (q := fun x => x.mi == m.i) (fun x hx => by
        obtain ⟨_, _, _, _, _, hxn, _⟩ := hwok x hx
        rw [hL.1.2 _ hxn, Bool.and_true])]) (fun m hmem m' hmem' hne => hinv.ne m hmem m' hmem' hne (hall m hmem) (hall m' hmem'))
    rw [← fill_all ms aq hall, ← hinv.act] at hq
    have := wpAny_of_seq (md := .any) (Q' := Q) (l.drop n) n listed a' w' (fun j => by simp [List.getElem?_drop]) (by rw [hdl]; exact hL.1.1) hq
    rwa [hdl] at this) (l.take n).length (fun _ => 0) (Array.replicate l.toArray.size false) a a { w with drawn := w.drawn + 1 }
      ⟨(Below.refl _ _).drew, by
        have : ∀ (ms : List Mk) (a : Act), a = fill (fun _ => 0) (Array.replicate l.toArray.size false) ms a := by
          intro ms
          induction ms with
          | nil => intro a; rfl
          | cons m ms ih => intro a; unfold fill; rw [if_neg (by rw [getD_replicate_false]; exact Bool.false_ne_true)]; exact ih a
        exact this ms a, inv0, hsz, fun m _ hl => (by rw [getD_replicate_false] at hl; cases hl), fun m _ _ _ _ hl => (by rw [getD_replicate_false] at hl; cases hl)⟩ H
  rw [htl, show n + (l.toArray.size - n) = l.toArray.size by omega] at this
  exact this
theorem wpM_nil {ms : List Mk} {ws : List Wr} {Q : Act → Prop} {k : Nat} {a : Act} (h : Q a) : wpM P ops w0 ms ws Q k [] a := h
theorem wpM_skip {ms : List Mk} {ws : List Wr} {Q : Act → Prop} {k : Nat} {a : Act} {o : Oper} {rest : List Oper} (hm : isMk ms k = true) (h : wpM P ops w0 ms ws Q (k + 1) rest a) : wpM P ops w0 ms ws Q k (o :: rest) a := by
  unfold wpM; rw [if_pos hm]; exact h
theorem wpM_write {ms : List Mk} {ws : List Wr} {Q : Act → Prop} {k : Nat} {a : Act} {o : Oper} {rest : List Oper} (hm : isMk ms k = false) (hwr : isWr ws k = true) (hg : wrOk ws k a) (h : wpM P ops w0 ms ws Q (k + 1) rest a) : wpM P ops w0 ms ws Q k (o :: rest) a := by
  unfold wpM; rw [if_neg (by rw [hm]; exact Bool.false_ne_true), if_pos hwr]; exact ⟨hg, h⟩
theorem wpM_pass {ms : List Mk} {ws : List Wr} {Q : Act → Prop} {k : Nat} {a : Act} {o : Oper} {rest : List Oper} (hm : isMk ms k = false) (hwr : isWr ws k = false) (hw : Region.wanted o (yielded ops a.tmps) = false) (h : wpM P ops w0 ms ws Q (k + 1) rest (a.put o.dst undef)) : wpM P ops w0 ms ws Q k (o :: rest) a := by
  unfold wpM; rw [if_neg (by rw [hm]; exact Bool.false_ne_true), if_neg (by rw [hwr]; exact Bool.false_ne_true), if_neg (by rw [hw]; exact Bool.false_ne_true)]; exact h
theorem wpM_want {ms : List Mk} {ws : List Wr} {Q : Act → Prop} {k : Nat} {a : Act} {o : Oper} {rest : List Oper} (hm : isMk ms k = false) (hwr : isWr ws k = false) (hw : Region.wanted o (yielded ops a.tmps) = true) (d : Tmp) (hd : o.dst = some d) (hsz : d < a.tmps.size) (a' : Act)
    (h : ∀ w1, Below w0.heap.size w0 w1 → ∀ K : Act → Prop, K a' → o.quiet P a (fun w' => ∃ p : Regrown, w' = grow (redrawn w1 p.d) p.os) K) (k' : wpM P ops w0 ms ws Q (k + 1) rest a') : wpM P ops w0 ms ws Q k (o :: rest) a := by
  unfold wpM; rw [if_neg (by rw [hm]; exact Bool.false_ne_true), if_neg (by rw [hwr]; exact Bool.false_ne_true), if_pos hw]
  have key : ∀ w1, Below w0.heap.size w0 w1 → ∃ v, o.quietAt P a (fun w'' => Below w1.heap.size w1 w'') w1 v ∧ a' = a.put o.dst v := by
    intro w1 hb1
    obtain ⟨v, h1, h2⟩ := h w1 hb1 (fun x => x = a') rfl
    refine ⟨v, ?_, h2.symm⟩
    have h3 := h1 w1 ⟨⟨w1.drawn, #[]⟩, by rw [grow_empty]; rfl⟩
    unfold Oper.quietAt at *
    generalize (execOp a.eval o).run P w1 = r at *
    cases r with
    | ok x w' =>
      cases x <;> simp only [Oper.quietUpon] at h3 ⊢
      case value => exact h3
      case skip => exact h3
      case enter =>
        refine ⟨h3.1, h3.2.mono fun e w'' ⟨he, p, hp⟩ => ⟨he, ?_⟩⟩
        rw [hp]; exact below_regrown w1 _ _
    | halt x w' => simp only [Oper.quietUpon] at h3
  have uniq : ∀ v v' : Value, a.put o.dst v = a.put o.dst v' → v = v' := by
    intro v v' e
    rw [hd] at e
    have e2 := congrArg (fun x : Act => x.tmps.getD d undef) e
    simpa [Act.put, hsz] using e2
  obtain ⟨v, _, hv⟩ := key w0 (Below.refl _ _)
  refine ⟨v, fun w1 hb1 => ?_, hv ▸ k'⟩
  obtain ⟨v', h1, h2⟩ := key w1 hb1
  rw [hv] at h2
  exact uniq _ _ h2 ▸ h1
end
end Go.Proofs.Ytjeofjhcdeginaa
