/- FnUlpSize: for every float64 the law returns true. -/
import Derived.Test.YtaljjmodabjaeaaChecked
import Derived.Test.YtaljjmodabjaeaaFl
import Derived.WalkKit
import Derived.Laws.BitsAllLaws
import Derived.Test.YtaljjmodabjaeaaBase
namespace Go.Proofs.Ytaljjmodabjaeaa
open Go.RowKit
open Fl
namespace Ulp
theorem ext_bits (a : Nat) (w : World) : (callFunc 10 #[.float .f64 a]).run Try.prog w = .ok (.value (.int .u64 a)) w := by kernel_rfl
theorem ext_from (a : Int) (w : World) : (callFunc 9 #[.int .u64 a]).run Try.prog w = .ok (.value (.float .f64 a.toNat)) w := by kernel_rfl

theorem andNot_abs (a : Nat) (ha : a < 2^64) : (bits BinOp.andNot IntKind.u64 (a : Int) 9223372036854775808).toNat = rung a := by
  have h := u64_andNot_nat a 9223372036854775808 (by omega) (by omega)
  rw [show ((9223372036854775808 : Nat) : Int) = (9223372036854775808 : Int) from rfl] at h
  rw [h, Int.toNat_natCast, show 18446744073709551615 - 9223372036854775808 = 2^63 - 1 from rfl, Nat.and_two_pow_sub_one_eq_mod]
  rfl
theorem abs_any (a : Nat) (ha : a < 2^64) (w : World) :
    Calls Try.prog 7 #[.float .f64 a] w fun e w' => e = .returned (.float .f64 (rung a)) ∧ w = w' := by
  have h1 := ext_bits
  have h2 := ext_from
  have h3 := andNot_abs a ha
  go_enter Try.func7, Try.ntmps7
  go_wp2_with fail
  go_ret
  exact ⟨rfl, rfl⟩

theorem ulp_any (r : Nat) (hr : r < 2^63) (h1 : fin r) (h2 : fin (r + 1)) (w : World) :
    Calls Try.prog 8 #[.float .f64 r] w fun e w' => e = .returned (.float .f64 (fsub (r + 1) r)) ∧ w = w' := by
  have x1 := ext_bits
  have x2 := ext_from
  have h4 : ((r : Int) + 1).toNat = r + 1 := by omega
  have h5 : (r : Int) + 1 < 18446744073709551616 := by omega
  go_enter Try.func8, Try.ntmps8
  go_wp2
  go_ret
  exact ⟨rfl, rfl⟩
set_option maxHeartbeats 1000000 in
theorem walk0 (a : Nat) (ha : a < 2^64) (w : World) :
    Calls Try.prog 3 #[.float .f64 a] w fun e w' => e = .returned (.bool true) ∧ w = w' := by
  by_cases c1 : fle 0 a = true
  · by_cases c2 : flt a 9218868437227405311 = true
    · obtain ⟨_, ha2, c3⟩ := fle_iff.1 c1
      obtain ⟨_, _, c4⟩ := flt_iff.1 c2
      have k0 : key 0 = 0 := rfl
      have k1 : key 9218868437227405311 = 9218868437227405311 := rfl
      have hr : rung a < 9218868437227405311 := by
        unfold key at c3 c4 k0 k1
        split at c3 <;> split at c4 <;> simp_all <;> omega
      have f1 : fin (rung a) := by unfold fin; rw [show rung (rung a) = rung a from Nat.mod_mod _ _]; omega
      have f2 : fin (rung a + 1) := by
        have : rung (rung a + 1) = rung a + 1 := by rw [show rung (rung a + 1) = (rung a + 1) % 2^63 from rfl]; omega
        unfold fin; rw [this]; omega
      have e1 : feq (fsub (rung a + 1) (rung a)) (fsub (rung a + 1) (rung a)) = true := feq_self (num_fsub f2 f1)
      clear c3 c4 k0 k1
      have x1 := ext_bits
      have x2 := ext_from
      have h4 : ((rung a : Int) + 1).toNat = rung a + 1 := by omega
      have h5 : (rung a : Int) + 1 < 18446744073709551616 := by omega
      go_enter Try.func3, Try.ntmps3
      go_wp2_with (first | (go_at_call 7; refine (abs_any a ha _).mono ?_; rintro e w' ⟨rfl, rfl⟩) | (go_at_call 8; refine (ulp_any (rung a) (by omega) f1 f2 _).mono ?_; rintro e w' ⟨rfl, rfl⟩))
      go_ret
      exact ⟨rfl, rfl⟩
    · go_enter Try.func3, Try.ntmps3
      go_wp2_with fail
      go_ret
      exact ⟨rfl, rfl⟩
  · go_enter Try.func3, Try.ntmps3
    go_wp2_with fail
    go_ret
    exact ⟨rfl, rfl⟩

theorem walk (a : Nat) (w : World) (ha : a < 2^64) : Calls Try.prog 3 #[.float .f64 a] w fun e w' => e = .returned (.bool true) ∧ Below w.heap.size w w' :=
  (walk0 a ha w).mono fun e w' ⟨h1, h2⟩ => ⟨h1, by rw [← h2]; exact Below.refl _ _⟩
end Ulp
end Go.Proofs.Ytaljjmodabjaeaa
