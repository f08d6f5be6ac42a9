/- Walks: finite numbers. -/
import Derived.Test.YtjeofjhcdeginaaChecked
import Derived.Test.YtjeofjhcdeginaaBase
import Derived.Laws.BitsAllLaws
import Derived.Laws.StructEq
namespace Go.Proofs.Ytjeofjhcdeginaa
open Go.RowKit Go.Sort Fl
namespace FinW
theorem ext_bits (a : Nat) (w : World) : (callFunc 43 #[.float .f64 a]).run Try.prog w = .ok (.value (.int .u64 a)) w := by kernel_rfl
theorem ext_from (a : Int) (w : World) : (callFunc 42 #[.int .u64 a]).run Try.prog w = .ok (.value (.float .f64 a.toNat)) w := by kernel_rfl
theorem andNot_abs (a : Nat) (ha : a < 2^64) : (bits BinOp.andNot IntKind.u64 (a : Int) 9223372036854775808).toNat = rung a := by
  have h := u64_andNot_nat a 9223372036854775808 (by omega) (by omega)
  rw [show ((9223372036854775808 : Nat) : Int) = (9223372036854775808 : Int) from rfl] at h
  rw [h, Int.toNat_natCast, show 18446744073709551615 - 9223372036854775808 = 2^63 - 1 from rfl, Nat.and_two_pow_sub_one_eq_mod]
  rfl
theorem abs_any (a : Nat) (ha : a < 2^64) (w : World) :
    Calls Try.prog 36 #[.float .f64 a] w fun e w' => e = .returned (.float .f64 (rung a)) ∧ w = w' := by
  have h1 := ext_bits
  have h2 := ext_from
  have h3 := andNot_abs a ha
  go_enter Try.func36, Try.ntmps36
  go_wp2_with fail
  go_ret
  exact ⟨rfl, rfl⟩
theorem nan_any (x : Nat) (w : World) : Calls Try.prog 27 #[.float .f64 x] w fun e w' => e = .returned (.bool (!feq x x)) ∧ w = w' := by
  go_enter Try.func27, Try.ntmps27
  go_wp2
  go_ret
  exact ⟨rfl, rfl⟩
def infB (x : Nat) : Bool := flt 9218868437227405311 (rung x)
theorem inf_any (x : Nat) (hx : x < 2^64) (w : World) : Calls Try.prog 28 #[.float .f64 x, .int .i64 0] w fun e w' => e = .returned (.bool (infB x)) ∧ w = w' := by
  unfold infB
  go_enter Try.func28, Try.ntmps28
  go_wp2_with (go_at_call 36; refine (abs_any x hx _).mono ?_; rintro e w1 ⟨rfl, rfl⟩)
  go_ret
  exact ⟨rfl, rfl⟩
def finB (x : Nat) : Bool := feq x x && !infB x
theorem finB_iff {x : Nat} : finB x = true ↔ fin x := by
  unfold finB infB
  rw [Bool.and_eq_true, feq_iff]
  have k1 : key 9218868437227405311 = 9218868437227405311 := rfl
  have n1 : num 9218868437227405311 := by unfold num; decide
  have r1 : rung (rung x) = rung x := Nat.mod_mod _ _
  have k2 : key (rung x) = rung x := by
    have : rung x < 2^63 := Nat.mod_lt _ (by omega)
    unfold key neg
    rw [r1, Nat.div_eq_of_lt this]; rfl
  have hn : num (rung x) ↔ num x := by unfold num; rw [r1]
  constructor
  · rintro ⟨⟨h, _⟩, h2⟩
    rw [flt_num n1 (hn.2 h), k1, k2] at h2
    unfold fin; unfold num at h
    simp at h2
    omega
  · intro h
    have h' := fin_num h
    refine ⟨⟨h', h', rfl⟩, ?_⟩
    rw [flt_num n1 (hn.2 h'), k1, k2]
    unfold fin at h
    simp; omega
theorem gfin_any (x : Nat) (hx : x < 2^64) (w : World) : Calls Try.prog 14 #[.float .f64 x] w fun e w' => e = .returned (.bool (finB x)) ∧ w = w' := by
  have e0 : finB x = (feq x x && !infB x) := rfl
  have H0 := Lib.hid e0
  clear e0
  by_cases q : feq x x = true
  · go_enter Try.func14, Try.ntmps14
    go_wp2_with (first | (go_at_call 27; refine (nan_any x _).mono ?_; rintro e w1 ⟨rfl, rfl⟩) | (go_at_call 28; refine (inf_any x hx _).mono ?_; rintro e w1 ⟨rfl, rfl⟩))
    go_ret
    exact ⟨by rw [H0.out]; simp [q], rfl⟩
  · rw [Bool.not_eq_true] at q
    go_enter Try.func14, Try.ntmps14
    go_wp2_with (first | (go_at_call 27; refine (nan_any x _).mono ?_; rintro e w1 ⟨rfl, rfl⟩) | (go_at_call 28; refine (inf_any x hx _).mono ?_; rintro e w1 ⟨rfl, rfl⟩))
    go_ret
    exact ⟨by rw [H0.out]; simp [q], rfl⟩
end FinW
end Go.Proofs.Ytjeofjhcdeginaa
