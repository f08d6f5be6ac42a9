/- Regions that draw their order, whose operations read alone and whose calls make memory alone: walked once, in the class of the worlds that are as the first below its size. -/
import Derived.WalkKit
import Derived.BigQuiet
import Derived.Lib.QuietBelow
import Derived.Test.YtaljjmodabjaeaaFl
namespace Go.Proofs.Ytaljjmodabjaeaa
open Go.RowKit Go.Sort
theorem wp_region_below {P : Program} {id : Nat} {Q : Exit → Act → World → Prop} {a : Act} {w : World} {l : List Oper} (hm : P.follows .mixedOrders = true) (hB : Region.lexB .any l.toArray = true)
    (h : wpQuiet P l.toArray (fun w' => ∃ p : Regrown, w' = grow (redrawn w p.d) p.os) (fun a' => ∀ w', Below w.heap.size w w' → Q .normal a' w') l a) : (Code.region id l.toArray true).wp P Q a w := by
  refine wp_region_quiet_below hm hB ?_
  refine Eq.mp ?_ h
  congr 1
  funext a'
  refine propext ⟨fun h w' hp => ?_, fun h w' hb => h w' (regrown_of_below hb)⟩
  obtain ⟨p, rfl⟩ := hp
  exact h _ (below_regrown w _ _)
/-- a contract, met in a world of the class -/
theorem Calls.inClass {P : Program} {f : FuncId} {args : Array Value} {w : World} {v : Value} (h : ∀ w, Calls P f args w fun e w' => e = .returned v ∧ Below w.heap.size w w') (p : Regrown) :
    Calls P f args (grow (redrawn w p.d) p.os) fun e w'' => e = .returned v ∧ ∃ p : Regrown, w'' = grow (redrawn w p.d) p.os := Calls.regrown_of (h _)
theorem bcell {W w1 : World} (hb : Below W.heap.size W w1) : (∀ b o, b < W.heap.size → w1.cell? ⟨b, o, none⟩ = W.cell? ⟨b, o, none⟩) ∧ (∀ b o, b < W.heap.size → w1.frozen? ⟨b, o, none⟩ = W.frozen? ⟨b, o, none⟩) :=
  ⟨fun b o h => hb.cell (p := ⟨b, o, none⟩) h, fun b o h => hb.frozen (p := ⟨b, o, none⟩) h⟩
@[go_sem] theorem class_cell {w : World} (d : Nat) (os : Array Obj) (b o : Nat) (h : b < w.heap.size) : (grow (redrawn w d) os).cell? ⟨b, o, none⟩ = w.cell? ⟨b, o, none⟩ := (below_regrown w d os).cell h
theorem b_alloc {a w : World} (h : Below a.heap.size a w) (o : Obj) : Below a.heap.size a (w.alloc o) := h.alloc h.size o
theorem b_drew {a w : World} (h : Below a.heap.size a w) : Below a.heap.size a w.drew := h.drew
theorem b_set {a w : World} (h : Below a.heap.size a w) (p : Addr) (hp : a.heap.size ≤ p.block) (u : Value) : Below a.heap.size a (w.setCell p u) := h.setCell hp u
theorem b_trans {a w w' : World} (h : Below a.heap.size a w) (k : Below w.heap.size w w') : Below a.heap.size a w' := h.trans (k.mono h.size)
/-- a place's value -/
def xyV (x y : Nat) : Value := .agg #[.float .f64 x, .float .f64 y]
/-- a slice of places in memory below block B -/
def XYs (w : World) (B : Nat) (A : Option Addr) (ps : List (Nat × Nat)) : Prop :=
  ps ≠ [] → ∃ b off, A = some ⟨b, off, none⟩ ∧ b < B ∧ ∀ i (_ : i < ps.length), w.cell? ⟨b, off + i * 2, none⟩ = some (.float .f64 ps[i].1) ∧ w.cell? ⟨b, off + i * 2 + 1, none⟩ = some (.float .f64 ps[i].2)
end Go.Proofs.Ytaljjmodabjaeaa
