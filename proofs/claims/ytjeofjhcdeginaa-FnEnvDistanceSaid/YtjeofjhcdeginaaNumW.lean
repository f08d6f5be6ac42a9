/- Walks of the small functions over numbers. -/
import Derived.Test.YtjeofjhcdeginaaChecked
import Derived.Test.YtjeofjhcdeginaaBase
import Derived.Laws.BitsAllLaws
import Derived.Laws.StructEq
import Derived.Lib.Hide
namespace Go.Proofs.Ytjeofjhcdeginaa
open Go.RowKit Go.Sort Fl
namespace NumW
def truncOf (x : Nat) : Sem Value :=
  match FloatKind.f64.decode x with
  | .nan s t =>
    if FloatKind.f64.format.quiet t = t then pure (.float .f64 x) else do
    let kept ← choose (.extern "math.Floor,Ceil,Trunc,RoundToEven.signallingNaN kept" 2)
    pure (.float .f64 (if kept == 1 then x else FloatKind.f64.encode (.nan s (FloatKind.f64.format.quiet t))))
  | d => pure (.float .f64 (FloatKind.f64.encode (d.integral .zero)))
theorem ext_trunc (x : Nat) (w : World) : (callFunc 44 #[.float .f64 x]).run Try.prog w = ((truncOf x).run Try.prog w).andThen fun v w' => .ok (.value v) w' :=
  run_callFunc_extern (e := Extern.MathFloor.toIntegral "math.archTrunc" .zero) Try.func44 (by kernel_rfl) (by kernel_rfl) (by kernel_rfl) (by kernel_rfl) #[.float .f64 x] w
theorem ext_trunc_num {x : Nat} (h : num x) (w : World) : (callFunc 44 #[.float .f64 x]).run Try.prog w = .ok (.value (.float .f64 (ftrunc x))) w := by
  rw [ext_trunc]
  unfold ftrunc truncOf
  unfold num at h
  show ((Sem.run Try.prog (match Ieee.double.read x with
    | .nan s t => _
    | d => _) w).andThen _) = _
  by_cases h1 : rung x < 2^52
  · rw [read_sub h1]; rfl
  · by_cases h2 : rung x < 2047 * 2^52
    · rw [read_norm (by omega) h2]; rfl
    · rw [read_inf (by omega)]; rfl
theorem ext_trunc_nan {x : Nat} (h : ¬ num x) (w : World) : ∃ z n, (callFunc 44 #[.float .f64 x]).run Try.prog w = .ok (.value (.float .f64 z)) (w.drewN n) := by
  rw [ext_trunc]
  unfold num at h
  unfold truncOf
  have hd' : FloatKind.f64.decode x = .nan (neg x) (rung x - 2047 * 2^52) := read_nan (by omega)
  rw [hd']
  dsimp only
  split
  · exact ⟨x, 0, rfl⟩
  · exact ⟨_, 1, rfl⟩
def whole20 (x : Nat) : Bool := wholeIn 13920626448202203136 4697254411347427328 x
theorem whole20_iff {x : Nat} : whole20 x = true ↔ ∃ n : Int, isI x n ∧ -1048576 ≤ n ∧ n ≤ 1048576 :=
  wholeIn_iff (b := 1048576) (by decide) (isI_lit (by decide +kernel) (by decide)) (isI_lit (by decide +kernel) (by decide))
theorem whole_any (x : Nat) (w : World) : Calls Try.prog 33 #[.float .f64 x] w fun e w' => e = .returned (.bool (whole20 x)) ∧ ∃ n, w.drewN n = w' := by
  by_cases hx : num x
  · have h1 := fun w => ext_trunc_num hx w
    have hn := num_ftrunc hx
    have e0 : whole20 x = (feq x (ftrunc x) && fle 13920626448202203136 x && fle x 4697254411347427328) := rfl
    generalize ftrunc x = y at *
    have H0 := Lib.hid e0
    clear e0
    go_enter Try.func33, Try.ntmps33
    go_wp2
    all_goals
      go_ret
      refine ⟨?_, 0, rfl⟩
      rw [H0.out]
      simp [*]
  · obtain ⟨z, n, hz⟩ := ext_trunc_nan hx w
    have e0 : whole20 x = false := by unfold whole20 wholeIn; rw [feq_nan (.inl hx)]; rfl
    have H0 := Lib.hid e0
    have q1 : feq x z = false := feq_nan (.inl hx)
    clear e0
    go_enter Try.func33, Try.ntmps33
    go_wp2
    go_ret
    exact ⟨by rw [H0.out]; rfl, n, rfl⟩
def boxV (a b c d : Nat) : Value := .agg #[.float .f64 a, .float .f64 b, .float .f64 c, .float .f64 d]
def whole4 (a b c d : Nat) : Bool := whole20 a && whole20 b && whole20 c && whole20 d
theorem ewhole_any (a b c d : Nat) (w : World) : Calls Try.prog 23 #[boxV a b c d] w fun e w' => e = .returned (.bool (whole4 a b c d)) ∧ Below w.heap.size w w' := by
  unfold boxV
  have e0 : whole4 a b c d = (whole20 a && whole20 b && whole20 c && whole20 d) := rfl
  have H0 := Lib.hid e0
  clear e0
  go_enter Try.func23, Try.ntmps23
  go_wp2_with (go_at_call 33; refine (whole_any _ _).mono ?_; rintro e w1 ⟨rfl, n1, rfl⟩)
  all_goals
    go_ret
    refine ⟨by rw [H0.out]; simp [*], ?_⟩
    (repeat (first | exact Below.refl _ _ | refine b_alloc ?_ _ | refine b_drew ?_ | refine b_drewN ?_ _ | refine b_set ?_ _ (by first | (simp; done) | (simp; omega) | assumption | (dsimp only; omega)) _ | refine b_trans ?_ (by assumption)))
end NumW
end Go.Proofs.Ytjeofjhcdeginaa
