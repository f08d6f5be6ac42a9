/- Regions that draw their order, whose operations read alone and whose calls make memory alone: walked once, in the class of the worlds that are as the first below its size. -/
import Derived.WalkKit
import Derived.BigQuiet
import Derived.Lib.QuietBelow
import Derived.Deep.Cut
import Derived.Lib.Hide
import Derived.Test.YtllomldpbkeioaaFl
namespace Go.Proofs.Ytllomldpbkeioaa
open Go.RowKit Go.Sort
theorem wp_region_below {P : Program} {id : Nat} {Q : Exit → Act → World → Prop} {a : Act} {w : World} {l : List Oper} (hm : P.follows .mixedOrders = true) (hB : Region.lexB .any l.toArray = true)
    (h : wpQuiet P l.toArray (fun w' => ∃ p : Regrown, w' = grow (redrawn w p.d) p.os) (fun a' => ∀ w', Below w.heap.size w w' → Q .normal a' w') l a) : (Code.region id l.toArray true).wp P Q a w := by
  refine wp_region_quiet_below hm hB ?_
  refine Eq.mp ?_ h
  congr 1
  funext a'
  refine propext ⟨fun h w' hp => ?_, fun h w' hb => h w' (regrown_of_below hb)⟩
  obtain ⟨p, rfl⟩ := hp
  exact h _ (below_regrown w _ _)
theorem wpList_of_quiet {P : Program} {ops : Array Oper} {C : World → Prop} {Q : Act → Prop} {Q' : Exit → Act → World → Prop} (hQ : ∀ a w, C w → Q a → Q' .normal a w) : ∀ (l : List Oper) (a : Act) (w : World), C w → wpQuiet P ops C Q l a → wpList P ops Q' l a w
  | [], a, w, hw, h => hQ a w hw h
  | o :: rest, a, w, hw, h => by
    unfold wpList
    unfold wpQuiet at h
    split
    · rename_i hg
      rw [if_pos hg] at h
      exact .inl (Oper.wp_of_quiet hw (fun a' w' hw' hK => wpList_of_quiet hQ rest a' w' hw' hK) h)
    · rename_i hg
      rw [if_neg hg] at h
      exact wpList_of_quiet hQ rest _ w hw h
/-- the same for a region that does not draw -/
theorem wp_region_plain_below {P : Program} {id : Nat} {Q : Exit → Act → World → Prop} {a : Act} {w : World} {l : List Oper}
    (h : wpQuiet P l.toArray (fun w' => ∃ p : Regrown, w' = grow (redrawn w p.d) p.os) (fun a' => ∀ w', Below w.heap.size w w' → Q .normal a' w') l a) : (Code.region id l.toArray false).wp P Q a w := by
  refine wp_region ?_
  have e := wpOps_eq_wpList (P := P) (ops := l.toArray) (Q := Q) l 0 (by simp)
  rw [show List.range l.toArray.size = List.range' 0 l.length by simp [List.range_eq_range'], e]
  refine wpList_of_quiet (C := fun w' => ∃ p : Regrown, w' = grow (redrawn w p.d) p.os) ?_ l a w ⟨⟨w.drawn, #[]⟩, by rw [grow_empty]; rfl⟩ h
  rintro a' w' ⟨p, rfl⟩ hh
  exact hh _ (below_regrown w _ _)
/-- a contract, met in a world of the class -/
theorem Calls.inClass {P : Program} {f : FuncId} {args : Array Value} {w : World} {v : Value} (h : ∀ w, Calls P f args w fun e w' => e = .returned v ∧ Below w.heap.size w w') (p : Regrown) :
    Calls P f args (grow (redrawn w p.d) p.os) fun e w'' => e = .returned v ∧ ∃ p : Regrown, w'' = grow (redrawn w p.d) p.os := Calls.regrown_of (h _)
theorem Calls.inClassEq {P : Program} {f : FuncId} {args : Array Value} {w : World} {v : Value} (h : ∀ w, Calls P f args w fun e w' => e = .returned v ∧ w = w') (p : Regrown) :
    Calls P f args (grow (redrawn w p.d) p.os) fun e w'' => e = .returned v ∧ ∃ p : Regrown, w'' = grow (redrawn w p.d) p.os :=
  Calls.inClass (fun w => (h w).mono fun _ _ ⟨h1, h2⟩ => ⟨h1, h2 ▸ Below.refl _ _⟩) p
/-- a contract that asks something of the memory, met in a world of the class -/
theorem Calls.inClassG {P : Program} {f : FuncId} {args : Array Value} {w : World} {v : Value} (h : ∀ w', Below w.heap.size w w' → Calls P f args w' fun e w'' => e = .returned v ∧ Below w'.heap.size w' w'') (p : Regrown) :
    Calls P f args (grow (redrawn w p.d) p.os) fun e w'' => e = .returned v ∧ ∃ p : Regrown, w'' = grow (redrawn w p.d) p.os := Calls.regrown_of (h _ (below_regrown w _ _))
theorem bcell {W w1 : World} (hb : Below W.heap.size W w1) : (∀ b o, b < W.heap.size → w1.cell? ⟨b, o, none⟩ = W.cell? ⟨b, o, none⟩) ∧ (∀ b o, b < W.heap.size → w1.frozen? ⟨b, o, none⟩ = W.frozen? ⟨b, o, none⟩) :=
  ⟨fun b o h => hb.cell (p := ⟨b, o, none⟩) h, fun b o h => hb.frozen (p := ⟨b, o, none⟩) h⟩
@[go_sem] theorem class_cell {w : World} (d : Nat) (os : Array Obj) (b o : Nat) (h : b < w.heap.size) : (grow (redrawn w d) os).cell? ⟨b, o, none⟩ = w.cell? ⟨b, o, none⟩ := (below_regrown w d os).cell h
theorem b_drewN {a w : World} (h : Below a.heap.size a w) (n : Nat) : Below a.heap.size a (w.drewN n) := ⟨h.os, h.tape, h.output, h.size, h.block⟩
theorem b_alloc {a w : World} (h : Below a.heap.size a w) (o : Obj) : Below a.heap.size a (w.alloc o) := h.alloc h.size o
theorem b_drew {a w : World} (h : Below a.heap.size a w) : Below a.heap.size a w.drew := h.drew
theorem b_set {a w : World} (h : Below a.heap.size a w) (p : Addr) (hp : a.heap.size ≤ p.block) (u : Value) : Below a.heap.size a (w.setCell p u) := h.setCell hp u
theorem b_trans {a w w' : World} (h : Below a.heap.size a w) (k : Below w.heap.size w w') : Below a.heap.size a w' := h.trans (k.mono h.size)
/-- a place's value -/
def xyV (x y : Nat) : Value := .agg #[.float .f64 x, .float .f64 y]
/-- a slice of places in memory below block B -/
def XYs (w : World) (B : Nat) (A : Option Addr) (ps : List (Nat × Nat)) : Prop :=
  ps ≠ [] → ∃ b off, A = some ⟨b, off, none⟩ ∧ b < B ∧ ∀ i (_ : i < ps.length), w.cell? ⟨b, off + i * 2, none⟩ = some (.float .f64 ps[i].1) ∧ w.cell? ⟨b, off + i * 2 + 1, none⟩ = some (.float .f64 ps[i].2)
/-! ### a block that is known whole -/
def Blk (w : World) (g : Nat) (t : TypeId) (cs : Array Value) : Prop := w.heap[g]? = some (.cells cs t (0, 0))
section
variable {w w' : World} {g : Nat} {t : TypeId} {cs cs' : Array Value}
theorem Blk.lt (h : Blk w g t cs) : g < w.heap.size := by
  rcases Nat.lt_or_ge g w.heap.size with hlt | hge
  · exact hlt
  · unfold Blk at h; rw [Array.getElem?_eq_none hge] at h; cases h
theorem Blk.cell (h : Blk w g t cs) (i : Nat) : w.cell? ⟨g, i, none⟩ = cs[i]? := cell_of_row w g i cs t (0, 0) h
theorem Blk.frozen (h : Blk w g t cs) (i : Nat) : w.frozen? ⟨g, i, none⟩ = false := by
  unfold Blk at h
  simp [World.frozen?, h]
theorem Blk.new (w : World) (t : TypeId) (cs : Array Value) : Blk (w.alloc (.cells cs t)) w.heap.size t cs := heap_alloc_new w _
theorem Blk.newAt (w : World) (t : TypeId) (cs : Array Value) {n : Nat} (hn : n = w.heap.size) : Blk (w.alloc (.cells cs t)) n t cs := by subst hn; exact heap_alloc_new w _
theorem Blk.drew (h : Blk w g t cs) : Blk w.drew g t cs := h
theorem Blk.drewN (h : Blk w g t cs) (n : Nat) : Blk (w.drewN n) g t cs := h
theorem Blk.alloc (h : Blk w g t cs) (o : Obj) : Blk (w.alloc o) g t cs := (Below.heap_alloc w o g h.lt).trans h
theorem Blk.set_ (h : Blk w g t cs) (i : Nat) (u : Value) : Blk (w.setCell ⟨g, i, none⟩ u) g t (cs.setIfInBounds i u) := by
  unfold Blk at h ⊢
  simp [World.setCell, Array.getElem?_modify, h]
theorem Blk.far (h : Blk w g t cs) {p : Addr} (hp : g ≠ p.block) (u : Value) : Blk (w.setCell p u) g t cs := (Below.heap_setCell w p u g hp).trans h
theorem Blk.below {B : Nat} (h : Blk w g t cs) (hb : Below B w w') (hg : g < B) : Blk w' g t cs := (hb.block g hg).trans h
theorem Blk.stay (h : Blk w g t cs) (hb : Below w.heap.size w w') : Blk w' g t cs := h.below hb h.lt
theorem Blk.cast (h : Blk w g t cs) (e : cs = cs') : Blk w g t cs' := e ▸ h
end
end Go.Proofs.Ytllomldpbkeioaa
